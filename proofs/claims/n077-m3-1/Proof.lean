import JvmDerived
import JvmDerived.Pilot.@@N@@Statement
import JvmDerived.Pilot.@@N@@Code
set_option linter.unusedVariables false
set_option linter.unusedSimpArgs false
/-! ## A small machine: its steps are plain functions; one theorem carries its runs to the model's -/
namespace Jvm.MV
open Jvm Jvm.ClassFile Sem Op Lib Jvm.Free Jvm.Stand Jvm.LawKit Jvm.RoadKit Bundle
abbrev MH : Type := List (Nat × List Value)
abbrev MS : Type := Nat × List Slot × List Value × MH
abbrev MR : Type := Option Value × MH
abbrev Orc : Type := Nat → List Value → MH → Option MR
abbrev MOp : Type := Orc → List Slot → List Value → MH → Option (MS ⊕ MR)
abbrev POp : Type := List Slot → List Value → Option (Nat × List Slot × List Value)
abbrev Tab : Type := List (FieldType × Nat × List (String × String × String × FieldType))
abbrev Meths : Type := List (Nat × List (Nat × MOp))
def lift (g : POp) : MOp := fun _ L S H => match g L S with
  | some (n, L', S') => some (.inl (n, L', S', H))
  | none => none
def look : List (Nat × MOp) → Nat → Option MOp
  | [], _ => none
  | (q, f) :: r, pc => match Nat.beq q pc with
    | true => some f
    | false => look r pc
def mrun (call : Orc) (code : List (Nat × MOp)) : Nat → MS → Option MR
  | 0, _ => none
  | n + 1, (pc, L, S, H) => match look code pc with
    | none => none
    | some f => match f call L S H with
      | none => none
      | some (.inl st) => mrun call code n st
      | some (.inr r) => some r
def loc : List Value → List Slot
  | [] => []
  | v :: r => if v.category = 2 then .val v :: .second :: loc r else .val v :: loc r
def mloc (as : List Value) (n : Nat) : List Slot := loc as ++ List.replicate (n - (loc as).length) .unset
def callN (D : Meths) (F : Nat) : Nat → Orc
  | 0 => fun _ _ _ => none
  | k + 1 => fun μ as H => match D[μ]? with
    | none => none
    | some (n, code) => if (loc as).length ≤ n then mrun (callN D F k) code F (0, mloc as n, [], H) else none
def Le (c c' : Orc) : Prop := ∀ μ as H r, c μ as H = some r → c' μ as H = some r
def Mono (f : MOp) : Prop := ∀ c c' L S H r, Le c c' → f c L S H = some r → f c' L S H = some r
theorem mono_lift (g : POp) : Mono (lift g) := fun _ _ _ _ _ _ _ h => h
theorem look_mem {code : List (Nat × MOp)} {pc : Nat} {f : MOp} (h : look code pc = some f) : (pc, f) ∈ code := by
  induction code with
  | nil => cases h
  | cons q r ih =>
    obtain ⟨q, f'⟩ := q
    simp only [look] at h
    cases hb : Nat.beq q pc with
    | true =>
      rw [hb] at h
      cases h
      cases Nat.eq_of_beq_eq_true hb
      exact List.mem_cons_self ..
    | false =>
      rw [hb] at h
      exact List.mem_cons_of_mem _ (ih h)
theorem mrun_mono {code : List (Nat × MOp)} (hm : ∀ q ∈ code, Mono q.2) {c c' : Orc} (hl : Le c c') : ∀ n n' st r, n ≤ n' → mrun c code n st = some r → mrun c' code n' st = some r
  | 0, _, _, _, _, h => by cases h
  | n + 1, 0, _, _, hn, _ => by omega
  | n + 1, n' + 1, (pc, L, S, H), r, hn, h => by
    simp only [mrun] at h ⊢
    cases hk : look code pc with
    | none => simp [hk] at h
    | some f =>
      simp only [hk] at h ⊢
      cases hf : f c L S H with
      | none => simp [hf] at h
      | some q =>
        rw [hf] at h
        have hm' : f c' L S H = some q := hm _ (look_mem hk) c c' L S H q hl hf
        rw [hm']
        cases q with
        | inl st => exact mrun_mono hm hl n n' st r (by omega) h
        | inr r' => exact h
theorem callN_mono {D : Meths} (hD : ∀ q ∈ D, ∀ w ∈ q.2, Mono w.2) {F F' : Nat} (hF : F ≤ F') : ∀ k k', k ≤ k' → Le (callN D F k) (callN D F' k')
  | 0, _, _ => fun _ _ _ _ h => by cases h
  | k + 1, 0, h => by omega
  | k + 1, k' + 1, hk => fun μ as H r h => by
    simp only [callN] at h ⊢
    cases hq : D[μ]? with
    | none => simp [hq] at h
    | some q =>
      obtain ⟨n, code⟩ := q
      simp only [hq] at h ⊢
      split at h
      · rw [if_pos (by assumption)]
        exact mrun_mono (hD _ (List.mem_of_getElem? hq)) (callN_mono hD hF k k' (by omega)) F F' _ r hF h
      · cases h
/-! what it means to end with r -/
def Eval (D : Meths) (μ : Nat) (as : List Value) (H : MH) (r : MR) : Prop := ∃ F k, callN D F k μ as H = some r
def Go (D : Meths) (code : List (Nat × MOp)) (st : MS) (r : MR) : Prop := ∃ F k n, mrun (callN D F k) code n st = some r
section Rules
variable {D : Meths} {code : List (Nat × MOp)} {pc : Nat} {L : List Slot} {S : List Value} {H : MH} {f : MOp} {st' : MS} {r : MR}
theorem Go.step (hl : look code pc = some f) (hf : ∀ c, f c L S H = some (.inl st')) (h : Go D code st' r) : Go D code (pc, L, S, H) r := by
  obtain ⟨F, k, n, h⟩ := h
  exact ⟨F, k, n + 1, by simp only [mrun, hl, hf]; exact h⟩
theorem Go.ret (hl : look code pc = some f) (hf : ∀ c, f c L S H = some (.inr r)) : Go D code (pc, L, S, H) r :=
  ⟨0, 0, 1, by simp only [mrun, hl, hf]⟩
theorem Go.call (hD : ∀ q ∈ D, ∀ w ∈ q.2, Mono w.2) (hc : ∀ w ∈ code, Mono w.2) {μ : Nat} {as : List Value} {H1 : MH} {r1 : MR} (hE : Eval D μ as H1 r1) (hl : look code pc = some f) (hf : ∀ c : Orc, c μ as H1 = some r1 → f c L S H = some (.inl st')) (h : Go D code st' r) : Go D code (pc, L, S, H) r := by
  obtain ⟨F, k, n, h⟩ := h
  obtain ⟨F1, k1, h1⟩ := hE
  have m1 := callN_mono hD (Nat.le_max_left F F1) k (max k k1) (Nat.le_max_left ..)
  have m2 := callN_mono hD (Nat.le_max_right F F1) k1 (max k k1) (Nat.le_max_right ..)
  refine ⟨max F F1, max k k1, n + 1, ?_⟩
  simp only [mrun, hl, hf _ (m2 _ _ _ _ h1)]
  exact mrun_mono hc m1 n n _ _ (Nat.le_refl _) h
theorem Eval.intro (hD : ∀ q ∈ D, ∀ w ∈ q.2, Mono w.2) {μ : Nat} {as : List Value} {n : Nat} (hq : D[μ]? = some (n, code)) (hn : (loc as).length ≤ n) (h : Go D code (0, mloc as n, [], H) r) : Eval D μ as H r := by
  obtain ⟨F, k, n', h⟩ := h
  refine ⟨max F n', k + 1, ?_⟩
  simp only [callN, hq, if_pos hn]
  exact mrun_mono (hD _ (List.mem_of_getElem? hq)) (callN_mono hD (Nat.le_max_left ..) k k (Nat.le_refl _)) _ _ _ _ (Nat.le_max_right ..) h
end Rules
/-! ### the plain steps -/
def mset (L : List Slot) (k : Nat) (v : Value) : Option (List Slot) := match L[k]? with
  | some .unset => some (L.set k (.val v))
  | some (.val w) => match w.category with
    | 1 => some (L.set k (.val v))
    | _ => none
  | _ => none
def mset2 (L : List Slot) (k : Nat) (v : Value) : Option (List Slot) := match L[k]? with
  | some .unset => match L[k + 1]? with
    | some .unset => some ((L.set k (.val v)).set (k + 1) .second)
    | _ => none
  | _ => none
def pIld (k n : Nat) : POp := fun L S => match L[k]? with
  | some (.val (.int x)) => some (n, L, .int x :: S)
  | _ => none
def pLld (k n : Nat) : POp := fun L S => match L[k]? with
  | some (.val (.long x)) => some (n, L, .long x :: S)
  | _ => none
def pAld (k n : Nat) : POp := fun L S => match L[k]? with
  | some (.val (.ref x)) => some (n, L, .ref x :: S)
  | some (.val .null) => some (n, L, .null :: S)
  | _ => none
def pIst (k n : Nat) : POp := fun L S => match S with
  | .int x :: S' => match mset L k (.int x) with
    | some L' => some (n, L', S')
    | none => none
  | _ => none
def pLst (k n : Nat) : POp := fun L S => match S with
  | .long x :: S' => match mset2 L k (.long x) with
    | some L' => some (n, L', S')
    | none => none
  | _ => none
def pAst (k n : Nat) : POp := fun L S => match S with
  | .ref x :: S' => match mset L k (.ref x) with
    | some L' => some (n, L', S')
    | none => none
  | .null :: S' => match mset L k .null with
    | some L' => some (n, L', S')
    | none => none
  | _ => none
def pInt (x : Int32) (n : Nat) : POp := fun L S => some (n, L, .int x :: S)
def pLong (x : Int64) (n : Nat) : POp := fun L S => some (n, L, .long x :: S)
def pNull (n : Nat) : POp := fun L S => some (n, L, .null :: S)
def pBin (g : Int32 → Int32 → Int32) (n : Nat) : POp := fun L S => match S with
  | .int y :: .int x :: S' => some (n, L, .int (g x y) :: S')
  | _ => none
def pRem (n : Nat) : POp := fun L S => match S with
  | .int y :: .int x :: S' => if y = 0 then none else some (n, L, .int (x % y) :: S')
  | _ => none
def pUn (g : Int32 → Int32) (n : Nat) : POp := fun L S => match S with
  | .int x :: S' => some (n, L, .int (g x) :: S')
  | _ => none
def pI2L (n : Nat) : POp := fun L S => match S with
  | .int x :: S' => some (n, L, .long x.toInt64 :: S')
  | _ => none
def pLBin (g : Int64 → Int64 → Int64) (n : Nat) : POp := fun L S => match S with
  | .long y :: .long x :: S' => some (n, L, .long (g x y) :: S')
  | _ => none
def pLsh (g : Int64 → Int32 → Int64) (n : Nat) : POp := fun L S => match S with
  | .int y :: .long x :: S' => some (n, L, .long (g x y) :: S')
  | _ => none
def pLcmp (n : Nat) : POp := fun L S => match S with
  | .long y :: .long x :: S' => some (n, L, .int (XT.cmpL x y) :: S')
  | _ => none
def pInc (k : Nat) (d : Int32) (n : Nat) : POp := fun L S => match L[k]? with
  | some (.val (.int x)) => some (n, L.set k (.val (.int (x + d))), S)
  | _ => none
def pGoto (t : Nat) : POp := fun L S => some (t, L, S)
def pIf (cd : ClassFile.Cond) (t n : Nat) : POp := fun L S => match S with
  | .int x :: S' => match ifCond.holds cd x with
    | true => some (t, L, S')
    | false => some (n, L, S')
  | _ => none
def pIcmp (cd : ClassFile.Cond) (t n : Nat) : POp := fun L S => match S with
  | .int y :: .int x :: S' => match if_icmp.holds cd x y with
    | true => some (t, L, S')
    | false => some (n, L, S')
  | _ => none
def pNullYes (t n : Nat) : POp := fun L S => match S with
  | .null :: S' => some (t, L, S')
  | .ref _ :: S' => some (n, L, S')
  | _ => none
def pDup (n : Nat) : POp := fun L S => match S with
  | x :: S' => match x.category with
    | 1 => some (n, L, x :: x :: S')
    | _ => none
  | _ => none
def pPop (n : Nat) : POp := fun L S => match S with
  | x :: S' => match x.category with
    | 1 => some (n, L, S')
    | _ => none
  | _ => none
def pDupX1 (n : Nat) : POp := fun L S => match S with
  | x :: y :: S' => match x.category, y.category with
    | 1, 1 => some (n, L, x :: y :: x :: S')
    | _, _ => none
  | _ => none
def pDup2 (n : Nat) : POp := fun L S => match S with
  | x :: y :: S' => match x.category, y.category with
    | 1, 1 => some (n, L, x :: y :: x :: y :: S')
    | _, _ => none
  | _ => none
def pDupX2 (n : Nat) : POp := fun L S => match S with
  | x :: y :: z :: S' => match x.category, y.category, z.category with
    | 1, 1, 1 => some (n, L, x :: y :: z :: x :: S')
    | _, _, _ => none
  | _ => none
/-- which of two references are one: below xl two places may be one object -/
def same (xl : Nat) : Value → Value → Option Bool
  | .null, .null => some true
  | .null, .ref _ => some false
  | .ref _, .null => some false
  | .ref i, .ref j => match Nat.beq i j with
    | true => some true
    | false => match Nat.ble xl i || Nat.ble xl j with
      | true => some false
      | false => none
  | _, _ => none
def pAcmp (xl : Nat) (t n : Nat) : POp := fun L S => match S with
  | y :: x :: S' => match same xl x y with
    | some true => some (t, L, S')
    | some false => some (n, L, S')
    | none => none
  | _ => none
def oRetI (t : FieldType) : MOp := fun _ _ S H => match S with
  | .int x :: _ => some (.inr (some (.int (nar t x)), H))
  | _ => none
def oRetL : MOp := fun _ _ S H => match S with
  | [.long x] => some (.inr (some (.long x), H))
  | _ => none
def oRetA : MOp := fun _ _ S H => match S with
  | .ref x :: _ => some (.inr (some (.ref x), H))
  | .null :: _ => some (.inr (some .null, H))
  | _ => none
def oRet : MOp := fun _ _ S H => match S with
  | [] => some (.inr (none, H))
  | _ => none
def wt (S : List Value) : Nat := (S.map fun v => v.category).sum
def oCall (μ na W n : Nat) : MOp := fun call L S H =>
  if na ≤ S.length ∧ wt (S.drop na) ≤ W then match call μ (S.take na).reverse H with
    | some (v, H') => some (.inl (n, L, v.toList ++ S.drop na, H'))
    | none => none
  else none
end Jvm.MV
namespace Jvm.MV
open Jvm Jvm.ClassFile Sem Op Lib Jvm.Free Jvm.Stand Jvm.LawKit Jvm.RoadKit Bundle
/-! ### the small machine's places and the model's -/
abbrev MI : Type := MethodName × ByteArray × Nat × Option FieldType × Nat × Nat
section Real
variable (Z : State) (X : List Addr) (CT : Tab)
def ph (i : Nat) : Nat := match X[i]? with
  | some a => a
  | none => Z.heap.size + (i - X.length)
def ab : Value → Value
  | .ref i => .ref (ph Z X i)
  | v => v
def abS : Slot → Slot
  | .val v => .val (ab Z X v)
  | s => s
abbrev fra (m : MethodId) (pc : Nat) (L : List Slot) (S : List Value) : JFrame := mkF m pc ((L.map (abS Z X)).toArray) (S.map (ab Z X))
def CellOk (h : Heap) (a : Addr) (k : Nat) (vs : List Value) : Prop := match CT[k]? with
  | some (.array t, n, _) => ∃ c, Arr Z h a c t ∧ c.slots = (vs.map (ab Z X)).toArray ∧ (n = 1 → Exa Z h a ("[" ++ t.toString)) ∧ (n = 1 → ∀ C, t = .object C → Ovr Z c.cls C)
  | some (.object C, _, fs) => Exa Z h a C ∧ vs.length = fs.length ∧ ∀ (j : Nat) (O nm d : String) (ty : FieldType) (v : Value), fs[j]? = some (O, nm, d, ty) → vs[j]? = some v → Fld Z h a O nm d (ab Z X v)
  | _ => False
def Rep (h : Heap) (H : MH) : Prop := X.length ≤ H.length ∧ h.size = Z.heap.size + (H.length - X.length) ∧ (∀ a : Nat, a < Z.heap.size → h[a]? = Z.heap[a]?) ∧ ∀ (i k : Nat) (vs : List Value), H[i]? = some (k, vs) → CellOk Z X CT h (ph Z X i) k vs
def szc (q : Nat × List Value) : Nat := match CT[q.1]? with
  | some (.array _, _, _) => q.2.length
  | some (_, n, _) => n
  | none => 0
def sz (H : MH) : Nat := (H.map (szc CT)).sum
def Sit (p : Program) (l : Launch) (e : Env) (R : Room) (s : State) (m : MethodId) (args : Array Value) (below : List Frame) (meth : Method) (c : Code) (H0 : MH) (T : State) (L : List Slot) (H : MH) : Prop :=
  ∃ locs, Stand p l e R s m args below meth c T locs (H.length - H0.length) (sz CT H - sz CT H0) ∧ Rep Z X CT T.heap H ∧ Fr Z.heap.size locs ∧ L.length = c.maxLocals ∧ H0.length ≤ H.length ∧ sz CT H0 ≤ sz CT H ∧ s.heap.size = Z.heap.size + (H0.length - X.length) ∧ X.length ≤ H0.length
def Con (l : Launch) (M : MI) (as : List Value) (H : MH) (v : Option Value) (H' : MH) : Prop :=
  ∀ h0, Rep Z X CT h0 H → MetFree l M.1 (head1 [Jvm.Cond.code M.1 M.2.1 M.2.2.1 M.2.2.2.1] ({ frames := M.2.2.2.2.1, cells := H'.length - H.length, slots := sz CT H' - sz CT H, locals := M.2.2.2.2.2 } : Room))
    (fun a U => a = (as.map (ab Z X)).toArray ∧ Z.Warmed39 U.vm ∧ U.heap = h0) (fun _ _ _ _ _ => True)
    (fun _ U o U' => ∃ w L, o = .returned w ∧ (w = v.map (ab Z X) ∧ Fr Z.heap.size L ∧ Rep Z X CT U'.heap H') ∧ FrameEnd U o U' L (H'.length - H.length) (sz CT H' - sz CT H))
def Up (H : MH) (H' : MH) : Prop := H.length ≤ H'.length ∧ sz CT H ≤ sz CT H'
def OSnd (l : Launch) (MT : List MI) (call : Orc) : Prop := ∀ (μ : Nat) (as : List Value) (H : MH) (v : Option Value) (H' : MH), call μ as H = some (v, H') → Up CT H H' ∧ ∃ M, MT[μ]? = some M ∧ Con Z X CT l M as H v H'
/-- where a step leads -/
def Nxt (p : Program) (l : Launch) (e : Env) (R : Room) (s : State) (m : MethodId) (args : Array Value) (below : List Frame) (meth : Method) (c : Code) (H0 Hf : MH) (pc : Nat) (T : State) (L : List Slot) (S : List Value) (H : MH) : MS ⊕ MR → Prop
  | .inl (pc', L', S', H') => (H'.length ≤ Hf.length → sz CT H' ≤ sz CT Hf → ∃ T', Sit Z X CT p l e R s m args below meth c H0 T' L' H' ∧ ∀ target, Steps p.tables e below (T'.setTop (fra Z X m pc' L' S')) target → Steps p.tables e below (T.setTop (fra Z X m pc L S)) target)
  | .inr (v, H') => H' = H ∧ ∃ s₂, Steps p.tables e below (T.setTop (fra Z X m pc L S)) s₂ ∧ s₂.status = .running ∧ Ended s₂ below (.returned (v.map (ab Z X))) ∧ (∃ L', Fr Z.heap.size L' ∧ FrameEnd s (.returned (v.map (ab Z X))) s₂ L' (H.length - H0.length) (sz CT H - sz CT H0)) ∧ Rep Z X CT s₂.heap H
def hOf : MS ⊕ MR → MH
  | .inl (_, _, _, H') => H'
  | .inr (_, H') => H'
def Grow (f : MOp) : Prop := ∀ call L S H r, (∀ μ as H v H', call μ as H = some (v, H') → Up CT H H') → f call L S H = some r → Up CT H (hOf r)
def Sound (l : Launch) (MT : List MI) (M : MI) (pc : Nat) (f : MOp) : Prop := Mono f ∧ Grow CT f ∧
  ∀ (p : Program) (e : Env) (R : Room) (s : State) (m : MethodId) (args : Array Value) (below : List Frame) (meth : Method) (c : Code), p.tables.exec = Jvm.exec → Z.Warmed39 s.vm → s.vm.findClass M.1.cls = some m.cls → c.code = M.2.1 → meth.name = M.1.name → meth.sig.returnType = M.2.2.2.1 → meth.locks = false → M.2.2.2.2.1 ≤ R.frames → M.2.2.2.2.2 ≤ R.locals →
    ∀ call : Orc, OSnd Z X CT l MT call → ∀ H0 Hf : MH, Hf.length - H0.length ≤ R.cells → sz CT Hf - sz CT H0 ≤ R.slots → ∀ T L S H, Sit Z X CT p l e R s m args below meth c H0 T L H → ∀ r, f call L S H = some r → Nxt Z X CT p l e R s m args below meth c H0 Hf pc T L S H r
end Real
section Proofs
variable {Z : State} {X : List Addr} {CT : Tab} {l : Launch} {MT : List MI} {M : MI}
theorem mrun_grow {code : List (Nat × MOp)} {call : Orc} (hC : ∀ q ∈ code, Grow CT q.2) (hcall : ∀ μ as H v H', call μ as H = some (v, H') → Up CT H H') : ∀ n st r, mrun call code n st = some r → Up CT st.2.2.2 r.2
  | 0, _, _, h => by cases h
  | n + 1, (pc, L, S, H), r, h => by
    simp only [mrun] at h
    cases hk : look code pc with
    | none => simp [hk] at h
    | some f =>
      simp only [hk] at h
      cases hfr : f call L S H with
      | none => simp [hfr] at h
      | some q =>
        have g := hC _ (look_mem hk) call L S H q hcall hfr
        simp only [hfr] at h
        cases q with
        | inr r' => cases h; exact g
        | inl st =>
          obtain ⟨pc', L', S', H'⟩ := st
          have g2 := mrun_grow hC hcall n _ _ h
          exact ⟨Nat.le_trans g.1 g2.1, Nat.le_trans g.2 g2.2⟩
theorem run_sound {p : Program} {e : Env} {R : Room} {s : State} {m : MethodId} {args : Array Value} {below : List Frame} {meth : Method} {c : Code} {code : List (Nat × MOp)} {call : Orc} {H0 : MH}
    (hC : ∀ q ∈ code, Sound Z X CT l MT M q.1 q.2) (hx : p.tables.exec = Jvm.exec) (hZ : Z.Warmed39 s.vm) (hown : s.vm.findClass M.1.cls = some m.cls) (hby : c.code = M.2.1) (hnm : meth.name = M.1.name) (hret : meth.sig.returnType = M.2.2.2.1) (hlk : meth.locks = false) (hf : M.2.2.2.2.1 ≤ R.frames) (hl : M.2.2.2.2.2 ≤ R.locals) (hcall : OSnd Z X CT l MT call) {v : Option Value} {Hf : MH}
    (hRc : Hf.length - H0.length ≤ R.cells) (hRs : sz CT Hf - sz CT H0 ≤ R.slots) : ∀ n pc L S H T, mrun call code n (pc, L, S, H) = some (v, Hf) → Sit Z X CT p l e R s m args below meth c H0 T L H →
    ∃ s₂, Steps p.tables e below (T.setTop (fra Z X m pc L S)) s₂ ∧ s₂.status = .running ∧ Ended s₂ below (.returned (v.map (ab Z X))) ∧ (∃ L', Fr Z.heap.size L' ∧ FrameEnd s (.returned (v.map (ab Z X))) s₂ L' (Hf.length - H0.length) (sz CT Hf - sz CT H0)) ∧ Rep Z X CT s₂.heap Hf
  | 0, _, _, _, _, _, h, _ => by cases h
  | n + 1, pc, L, S, H, T, h, hs => by
    simp only [mrun] at h
    cases hk : look code pc with
    | none => simp [hk] at h
    | some f =>
      simp only [hk] at h
      cases hfr : f call L S H with
      | none => simp [hfr] at h
      | some r =>
        have q := (hC _ (look_mem hk)).2.2 p e R s m args below meth c hx hZ hown hby hnm hret hlk hf hl call hcall H0 Hf hRc hRs T L S H hs r hfr
        simp only [hfr] at h
        cases r with
        | inr r =>
          cases h
          obtain ⟨rfl, q⟩ := q
          exact q
        | inl st =>
          obtain ⟨pc', L', S', H'⟩ := st
          have g := mrun_grow (fun w hw => (hC w hw).2.1) (fun μ as H v H' hq => (hcall μ as H v H' hq).1) n _ _ h
          obtain ⟨T', hs', st⟩ := q g.1 g.2
          obtain ⟨s₂, k1, k2⟩ := run_sound hC hx hZ hown hby hnm hret hlk hf hl hcall hRc hRs n pc' L' S' H' T' h hs'
          exact ⟨s₂, st _ k1, k2⟩
/-! the method's entry -/
theorem loc_map (as : List Value) : loc (as.map (ab Z X)) = (loc as).map (abS Z X) := by
  induction as with
  | nil => rfl
  | cons v r ih =>
    have hc : (ab Z X v).category = v.category := by cases v <;> rfl
    simp only [List.map_cons, loc, hc]
    split <;> simp [ih, abS]
theorem loc_len (as : List Value) : (loc (as.map (ab Z X))).length = (loc as).length := by rw [loc_map]; simp
theorem locals_eq (as : List Value) (n : Nat) : argsToLocals as.toArray n = (mloc as n).toArray := by
  have h : ∀ (as : List Value) (acc : Array Slot), as.foldl (fun acc v => if v.category = 2 then (acc.push (.val v)).push .second else acc.push (.val v)) acc = acc ++ (loc as).toArray := by
    intro as
    induction as with
    | nil => intro acc; simp [loc]
    | cons v r ih =>
      intro acc
      simp only [List.foldl_cons, loc, ih]
      split <;> simp
  simp only [argsToLocals, mloc, List.foldl_toArray, h]
  simp
theorem mloc_map (as : List Value) (n : Nat) : mloc (as.map (ab Z X)) n = (mloc as n).map (abS Z X) := by
  simp only [mloc, loc_map, List.map_append, List.length_map, List.map_replicate, abS]
theorem entry_eq (m : MethodId) (as : List Value) (n : Nat) : entryFrame m (as.map (ab Z X)).toArray n = fra Z X m 0 (mloc as n) [] := by
  simp only [entryFrame, locals_eq, mloc_map, fra, mkF, List.map_nil]
theorem mloc_len {as : List Value} {n : Nat} (h : (loc as).length ≤ n) : (mloc as n).length = n := by
  simp only [mloc, List.length_append, List.length_replicate]; omega
theorem met_of_run {code : List (Nat × MOp)} {call : Orc} (hp : plainFor M.1 = true) (hC : ∀ q ∈ code, Sound Z X CT l MT M q.1 q.2) (hcall : OSnd Z X CT l MT call) {F : Nat} {as : List Value} {H Hf : MH} {v : Option Value} (hrun : mrun call code F (0, mloc as M.2.2.1, [], H) = some (v, Hf)) (hn : (loc as).length ≤ M.2.2.1)
    {R : Room} {ws : List Jvm.Cond} (hf : M.2.2.2.2.1 ≤ R.frames) (hl : M.2.2.2.2.2 ≤ R.locals) (hRc : Hf.length - H.length ≤ R.cells) (hRs : sz CT Hf - sz CT H ≤ R.slots) {h0 : Heap} (hrep : Rep Z X CT h0 H) :
    MetFree l M.1 (head1 (Jvm.Cond.code M.1 M.2.1 M.2.2.1 M.2.2.2.1 :: ws) R)
    (fun a U => a = (as.map (ab Z X)).toArray ∧ Z.Warmed39 U.vm ∧ U.heap = h0) (fun _ _ _ _ _ => True)
    (fun _ U o U' => ∃ w L, o = .returned w ∧ (w = v.map (ab Z X) ∧ Fr Z.heap.size L ∧ Rep Z X CT U'.heap Hf) ∧ FrameEnd U o U' L (Hf.length - H.length) (sz CT Hf - sz CT H)) := by
  refine MetFree.of_bodySF hp hisR ?_
  intro p e s m args below meth c s₁ Bd hml hP hK
  obtain ⟨rfl, hZ, hh⟩ := hP
  have X0 : Stand p l e R s m _ below meth c s₁ [] 0 0 := Stand.of_body Bd
  have e0 : s₁.heap = h0 := by rw [← hh, Bd.state]; rfl
  have hnm := (name_of_methodNamed Bd.named Bd.method).1
  have hS : Sit Z X CT p l e R s m (as.map (ab Z X)).toArray below meth c H s₁ (mloc as M.2.2.1) H := by
    refine ⟨[], ?_, by rw [e0]; exact hrep, Fr.nil _, by rw [hml]; exact mloc_len hn, Nat.le_refl _, Nat.le_refl _, by rw [hh]; exact hrep.2.1, hrep.1⟩
    rw [Nat.sub_self, Nat.sub_self]; exact X0
  obtain ⟨s₂, k1, k2, k3, ⟨L', k4, k5⟩, k6⟩ := run_sound hC Bd.exec hZ (findClass_of_methodNamed Bd.named) Bd.bytes hnm Bd.returns Bd.notSynchronized hf hl hcall hRc hRs F 0 (mloc as M.2.2.1) [] H s₁ hrun hS
  refine ⟨s₂, _, castTop (entry_eq m as M.2.2.1) k1, k2, k3, _, L', rfl, ⟨rfl, k4, k6⟩, k5⟩
theorem osnd_callN {D : Meths} (hlen : ∀ (μ n : Nat) (code : List (Nat × MOp)), D[μ]? = some (n, code) → ∃ M, MT[μ]? = some M ∧ M.2.2.1 = n ∧ plainFor M.1 = true ∧ ∀ q ∈ code, Sound Z X CT l MT M q.1 q.2) (F : Nat) : ∀ k, OSnd Z X CT l MT (callN D F k)
  | 0 => fun μ as H v H' h => by cases h
  | k + 1 => fun μ as H v H' h => by
    have ih := osnd_callN hlen F k
    simp only [callN] at h
    cases hq : D[μ]? with
    | none => simp [hq] at h
    | some q =>
      obtain ⟨n, code⟩ := q
      simp only [hq] at h
      split at h
      · rename_i hn
        obtain ⟨M, h1, rfl, h3, h4⟩ := hlen μ n code hq
        refine ⟨mrun_grow (fun w hw => (h4 w hw).2.1) (fun μ as H v H' hq => (ih μ as H v H' hq).1) F _ _ h, M, h1, fun h0 hrep => ?_⟩
        exact met_of_run h3 h4 ih h hn (Nat.le_refl _) (Nat.le_refl _) (Nat.le_refl _) (Nat.le_refl _) hrep
      · cases h
end Proofs
end Jvm.MV
namespace Jvm.MV
open Jvm Jvm.ClassFile Sem Op Lib Jvm.Free Jvm.Stand Jvm.LawKit Jvm.RoadKit Bundle
section Plain
variable {Z : State} {X : List Addr} {CT : Tab} {l : Launch} {MT : List MI} {M : MI} {pc : Nat} {a0 : Array Value}
def allP {α : Type} (P : α → Prop) : List α → Prop
  | [] => True
  | x :: r => P x ∧ allP P r
theorem allP_mem {α : Type} {P : α → Prop} : ∀ {xs : List α}, allP P xs → ∀ q ∈ xs, P q
  | [], _, _, hq => nomatch hq
  | _ :: _, h, q, hq => (List.mem_cons.mp hq).elim (fun e => e ▸ h.1) (allP_mem h.2 q)
def allC (P : Nat → MOp → Prop) : List (Nat × MOp) → Prop
  | [] => True
  | (pc, f) :: r => P pc f ∧ allC P r
theorem allC_mem {P : Nat → MOp → Prop} : ∀ {xs : List (Nat × MOp)}, allC P xs → ∀ q ∈ xs, P q.1 q.2
  | [], _, _, hq => nomatch hq
  | (_, _) :: _, h, q, hq => (List.mem_cons.mp hq).elim (fun e => e ▸ h.1) (allC_mem h.2 q)
theorem le_r {a b : Nat} (h : Nat.ble a b = true) : a ≤ b := Nat.le_of_ble_eq_true h
theorem allC_cons {P : Nat → MOp → Prop} {pc : Nat} {f : MOp} {r : List (Nat × MOp)} (h : P pc f) (t : allC P r) : allC P ((pc, f) :: r) := ⟨h, t⟩
theorem allC_nil {P : Nat → MOp → Prop} : allC P [] := trivial
theorem Up.refl (H : MH) : Up CT H H := ⟨Nat.le_refl _, Nat.le_refl _⟩
theorem grow_lift (g : POp) : Grow CT (lift g) := fun call L S H r hc h => by
  simp only [lift] at h
  split at h
  · cases h; exact Up.refl _
  · cases h
/-- what a plain step owes -/
def Pure (Z : State) (X : List Addr) (l : Launch) (M : MI) (pc : Nat) (g : POp) : Prop := ∀ (p : Program) (e : Env) (R : Room) (s : State) (m : MethodId) (args : Array Value) (below : List Frame) (meth : Method) (c : Code) (T : State) (locs : List Loc) (cells slots : Nat),
  Stand p l e R s m args below meth c T locs cells slots → p.tables.exec = Jvm.exec → Z.Warmed39 s.vm → s.vm.findClass M.1.cls = some m.cls → c.code = M.2.1 → ∀ L S n L' S', g L S = some (n, L', S') →
  L'.length = L.length ∧ ∀ target, Steps p.tables e below (T.setTop (fra Z X m n L' S')) target → Steps p.tables e below (T.setTop (fra Z X m pc L S)) target
theorem Sound.pure {g : POp} (h : Pure Z X l M pc g) : Sound Z X CT l MT M pc (lift g) := by
  refine ⟨mono_lift g, grow_lift g, ?_⟩
  intro p e R s m args below meth c hx hZ hown hby hnm hret hlk hf hl call hcall H0 Hf hRc hRs T L S H hs r hr
  simp only [lift] at hr
  split at hr
  · rename_i n L' S' hg
    cases hr
    obtain ⟨locs, Y, hrep, hfr, hlen, h1, h2, h3⟩ := hs
    obtain ⟨q1, q2⟩ := h p e R s m args below meth c T locs _ _ Y hx hZ hown hby L S n L' S' hg
    exact fun _ _ => ⟨T, ⟨locs, Y, hrep, hfr, by rw [q1]; exact hlen, h1, h2, h3⟩, q2⟩
  · cases hr
theorem lget {L : List Slot} {k : Nat} {v : Value} (h : L[k]? = some (.val v)) : ((L.map (abS Z X)).toArray)[k]? = some (.val (ab Z X v)) := by simp [h, abS]
theorem ab_cat (v : Value) : (ab Z X v).category = v.category := by cases v <;> rfl
theorem lset {L L' : List Slot} {k : Nat} {v : Value} (h : mset L k v = some L') (hv : v.category = 1) : storeLocals ((L.map (abS Z X)).toArray) k (ab Z X v) = some ((L'.map (abS Z X)).toArray) ∧ L'.length = L.length := by
  have key : ∀ o, L[k]? = some o → (abS Z X o = .unset ∨ ∃ w, abS Z X o = .val w ∧ w.category = 1) → storeLocals ((L.map (abS Z X)).toArray) k (ab Z X v) = some (((L.set k (.val v)).map (abS Z X)).toArray) := fun o ho hk => by
    rw [XS.store1 (o := abS Z X o) (by simp [ho]) hk (by rw [ab_cat]; exact hv)]
    simp [abS]
  simp only [mset] at h
  split at h
  · rename_i ho
    cases h
    exact ⟨key _ ho (Or.inl rfl), by simp⟩
  · rename_i w ho
    split at h
    · rename_i hc
      cases h
      exact ⟨key _ ho (Or.inr ⟨_, rfl, by rw [ab_cat]; exact hc⟩), by simp⟩
    · cases h
  · cases h
theorem lset2 {L L' : List Slot} {k : Nat} {x : Int64} (h : mset2 L k (.long x) = some L') : storeLocals ((L.map (abS Z X)).toArray) k (.long x) = some ((L'.map (abS Z X)).toArray) ∧ L'.length = L.length := by
  simp only [mset2] at h
  split at h
  · rename_i h0
    split at h
    · rename_i h1
      cases h
      have hk : k + 1 < L.length := (List.getElem?_eq_some_iff.mp h1).1
      have e0 : ((L.map (abS Z X)).toArray)[k]? = some .unset := by simp [h0, abS]
      have e1 : (((L.map (abS Z X)).toArray).setIfInBounds k (.val (.long x)))[k + 1]? = some .unset := by simp [h1, abS]
      refine ⟨?_, by simp⟩
      simp only [storeLocals, e0, Option.bind_eq_bind, Option.bind_some, storeSelf, setAt]
      have s1 : k < ((L.map (abS Z X)).toArray).size := by simp; omega
      simp only [s1, if_true, Option.bind_some, e1]
      have s2 : k + 1 < (((L.map (abS Z X)).toArray).setIfInBounds k (.val (.long x))).size := by simp; omega
      simp [Value.category, abS, ab]
      omega
    · cases h
  · cases h

theorem s_iadd (hd : decode M.2.1 pc = .ok (.iadd, 1)) : Sound Z X CT l MT M pc (lift (pBin (· + ·) (pc + 1))) := Sound.pure fun p e R s m args below meth c T locs cells slots Y hx hZ hown hby L S n L' S' h => by
  simp only [pBin] at h
  split at h
  · cases h; exact ⟨rfl, fun target ht => XS.iadd Y.here hx rfl (hb hby hd) rfl ht⟩
  · cases h
theorem s_isub (hd : decode M.2.1 pc = .ok (.isub, 1)) : Sound Z X CT l MT M pc (lift (pBin (· - ·) (pc + 1))) := Sound.pure fun p e R s m args below meth c T locs cells slots Y hx hZ hown hby L S n L' S' h => by
  simp only [pBin] at h
  split at h
  · cases h; exact ⟨rfl, fun target ht => XS.isub Y.here hx rfl (hb hby hd) rfl ht⟩
  · cases h
theorem s_imul (hd : decode M.2.1 pc = .ok (.imul, 1)) : Sound Z X CT l MT M pc (lift (pBin (· * ·) (pc + 1))) := Sound.pure fun p e R s m args below meth c T locs cells slots Y hx hZ hown hby L S n L' S' h => by
  simp only [pBin] at h
  split at h
  · cases h; exact ⟨rfl, fun target ht => XS.imul Y.here hx rfl (hb hby hd) rfl ht⟩
  · cases h
theorem s_iand (hd : decode M.2.1 pc = .ok (.iand, 1)) : Sound Z X CT l MT M pc (lift (pBin (· &&& ·) (pc + 1))) := Sound.pure fun p e R s m args below meth c T locs cells slots Y hx hZ hown hby L S n L' S' h => by
  simp only [pBin] at h
  split at h
  · cases h; exact ⟨rfl, fun target ht => XS.iand Y.here hx rfl (hb hby hd) rfl ht⟩
  · cases h
theorem s_ior (hd : decode M.2.1 pc = .ok (.ior, 1)) : Sound Z X CT l MT M pc (lift (pBin (· ||| ·) (pc + 1))) := Sound.pure fun p e R s m args below meth c T locs cells slots Y hx hZ hown hby L S n L' S' h => by
  simp only [pBin] at h
  split at h
  · cases h; exact ⟨rfl, fun target ht => XT.ior Y.here hx rfl (hb hby hd) rfl ht⟩
  · cases h
theorem s_ixor (hd : decode M.2.1 pc = .ok (.ixor, 1)) : Sound Z X CT l MT M pc (lift (pBin (· ^^^ ·) (pc + 1))) := Sound.pure fun p e R s m args below meth c T locs cells slots Y hx hZ hown hby L S n L' S' h => by
  simp only [pBin] at h
  split at h
  · cases h; exact ⟨rfl, fun target ht => XT.ixor Y.here hx rfl (hb hby hd) rfl ht⟩
  · cases h
theorem s_ishl (hd : decode M.2.1 pc = .ok (.ishl, 1)) : Sound Z X CT l MT M pc (lift (pBin (fun x y => x <<< (y &&& 31)) (pc + 1))) := Sound.pure fun p e R s m args below meth c T locs cells slots Y hx hZ hown hby L S n L' S' h => by
  simp only [pBin] at h
  split at h
  · cases h; exact ⟨rfl, fun target ht => XT.ishl Y.here hx rfl (hb hby hd) rfl ht⟩
  · cases h
theorem s_ishr (hd : decode M.2.1 pc = .ok (.ishr, 1)) : Sound Z X CT l MT M pc (lift (pBin (fun x y => x >>> (y &&& 31)) (pc + 1))) := Sound.pure fun p e R s m args below meth c T locs cells slots Y hx hZ hown hby L S n L' S' h => by
  simp only [pBin] at h
  split at h
  · cases h; exact ⟨rfl, fun target ht => XT.ishr Y.here hx rfl (hb hby hd) rfl ht⟩
  · cases h
theorem s_iushr (hd : decode M.2.1 pc = .ok (.iushr, 1)) : Sound Z X CT l MT M pc (lift (pBin XT.ushr (pc + 1))) := Sound.pure fun p e R s m args below meth c T locs cells slots Y hx hZ hown hby L S n L' S' h => by
  simp only [pBin] at h
  split at h
  · cases h; exact ⟨rfl, fun target ht => XT.iushr Y.here hx rfl (hb hby hd) rfl ht⟩
  · cases h
theorem s_irem (hd : decode M.2.1 pc = .ok (.irem, 1)) : Sound Z X CT l MT M pc (lift (pRem (pc + 1))) := Sound.pure fun p e R s m args below meth c T locs cells slots Y hx hZ hown hby L S n L' S' h => by
  simp only [pRem] at h
  split at h
  · split at h
    · cases h
    · rename_i hy
      cases h; exact ⟨rfl, fun target ht => iremM Y hx rfl (hb hby hd) rfl hy ht⟩
  · cases h
theorem s_ineg (hd : decode M.2.1 pc = .ok (.ineg, 1)) : Sound Z X CT l MT M pc (lift (pUn (fun x => -x) (pc + 1))) := Sound.pure fun p e R s m args below meth c T locs cells slots Y hx hZ hown hby L S n L' S' h => by
  simp only [pUn] at h
  split at h
  · cases h; exact ⟨rfl, fun target ht => XS.ineg Y.here hx rfl (hb hby hd) rfl ht⟩
  · cases h
theorem s_i2b (hd : decode M.2.1 pc = .ok (.i2b, 1)) : Sound Z X CT l MT M pc (lift (pUn (fun x => x.toInt8.toInt32) (pc + 1))) := Sound.pure fun p e R s m args below meth c T locs cells slots Y hx hZ hown hby L S n L' S' h => by
  simp only [pUn] at h
  split at h
  · cases h; exact ⟨rfl, fun target ht => XT.i2b Y.here hx rfl (hb hby hd) rfl ht⟩
  · cases h
theorem s_i2c (hd : decode M.2.1 pc = .ok (.i2c, 1)) : Sound Z X CT l MT M pc (lift (pUn (fun x => x.toUInt32.toUInt16.toUInt32.toInt32) (pc + 1))) := Sound.pure fun p e R s m args below meth c T locs cells slots Y hx hZ hown hby L S n L' S' h => by
  simp only [pUn] at h
  split at h
  · cases h; exact ⟨rfl, fun target ht => XT.i2c Y.here hx rfl (hb hby hd) rfl ht⟩
  · cases h
theorem s_i2s (hd : decode M.2.1 pc = .ok (.i2s, 1)) : Sound Z X CT l MT M pc (lift (pUn (fun x => x.toInt16.toInt32) (pc + 1))) := Sound.pure fun p e R s m args below meth c T locs cells slots Y hx hZ hown hby L S n L' S' h => by
  simp only [pUn] at h
  split at h
  · cases h; exact ⟨rfl, fun target ht => XT.i2s Y.here hx rfl (hb hby hd) rfl ht⟩
  · cases h
theorem s_i2l (hd : decode M.2.1 pc = .ok (.i2l, 1)) : Sound Z X CT l MT M pc (lift (pI2L (pc + 1))) := Sound.pure fun p e R s m args below meth c T locs cells slots Y hx hZ hown hby L S n L' S' h => by
  simp only [pI2L] at h
  split at h
  · cases h; exact ⟨rfl, fun target ht => XT.i2l Y.here hx rfl (hb hby hd) rfl ht⟩
  · cases h
theorem s_ladd (hd : decode M.2.1 pc = .ok (.ladd, 1)) : Sound Z X CT l MT M pc (lift (pLBin (· + ·) (pc + 1))) := Sound.pure fun p e R s m args below meth c T locs cells slots Y hx hZ hown hby L S n L' S' h => by
  simp only [pLBin] at h
  split at h
  · cases h; exact ⟨rfl, fun target ht => XT.ladd Y.here hx rfl (hb hby hd) rfl ht⟩
  · cases h
theorem s_lsub (hd : decode M.2.1 pc = .ok (.lsub, 1)) : Sound Z X CT l MT M pc (lift (pLBin (· - ·) (pc + 1))) := Sound.pure fun p e R s m args below meth c T locs cells slots Y hx hZ hown hby L S n L' S' h => by
  simp only [pLBin] at h
  split at h
  · cases h; exact ⟨rfl, fun target ht => XT.lsub Y.here hx rfl (hb hby hd) rfl ht⟩
  · cases h
theorem s_lmul (hd : decode M.2.1 pc = .ok (.lmul, 1)) : Sound Z X CT l MT M pc (lift (pLBin (· * ·) (pc + 1))) := Sound.pure fun p e R s m args below meth c T locs cells slots Y hx hZ hown hby L S n L' S' h => by
  simp only [pLBin] at h
  split at h
  · cases h; exact ⟨rfl, fun target ht => XT.lmul Y.here hx rfl (hb hby hd) rfl ht⟩
  · cases h
theorem s_land (hd : decode M.2.1 pc = .ok (.land, 1)) : Sound Z X CT l MT M pc (lift (pLBin (· &&& ·) (pc + 1))) := Sound.pure fun p e R s m args below meth c T locs cells slots Y hx hZ hown hby L S n L' S' h => by
  simp only [pLBin] at h
  split at h
  · cases h; exact ⟨rfl, fun target ht => XT.land Y.here hx rfl (hb hby hd) rfl ht⟩
  · cases h
theorem s_lor (hd : decode M.2.1 pc = .ok (.lor, 1)) : Sound Z X CT l MT M pc (lift (pLBin (· ||| ·) (pc + 1))) := Sound.pure fun p e R s m args below meth c T locs cells slots Y hx hZ hown hby L S n L' S' h => by
  simp only [pLBin] at h
  split at h
  · cases h; exact ⟨rfl, fun target ht => XT.lor Y.here hx rfl (hb hby hd) rfl ht⟩
  · cases h
theorem s_lxor (hd : decode M.2.1 pc = .ok (.lxor, 1)) : Sound Z X CT l MT M pc (lift (pLBin (· ^^^ ·) (pc + 1))) := Sound.pure fun p e R s m args below meth c T locs cells slots Y hx hZ hown hby L S n L' S' h => by
  simp only [pLBin] at h
  split at h
  · cases h; exact ⟨rfl, fun target ht => XT.lxor Y.here hx rfl (hb hby hd) rfl ht⟩
  · cases h
theorem s_lshl (hd : decode M.2.1 pc = .ok (.lshl, 1)) : Sound Z X CT l MT M pc (lift (pLsh (fun x y => x <<< (y.toInt64 &&& 63)) (pc + 1))) := Sound.pure fun p e R s m args below meth c T locs cells slots Y hx hZ hown hby L S n L' S' h => by
  simp only [pLsh] at h
  split at h
  · cases h; exact ⟨rfl, fun target ht => XT.lshl Y.here hx rfl (hb hby hd) rfl ht⟩
  · cases h
theorem s_lcmp (hd : decode M.2.1 pc = .ok (.lcmp, 1)) : Sound Z X CT l MT M pc (lift (pLcmp (pc + 1))) := Sound.pure fun p e R s m args below meth c T locs cells slots Y hx hZ hown hby L S n L' S' h => by
  simp only [pLcmp] at h
  split at h
  · cases h; exact ⟨rfl, fun target ht => XT.lcmp Y.here hx rfl (hb hby hd) rfl ht⟩
  · cases h
theorem s_iloadN {k : Fin 4} {kk : Nat} (hd : decode M.2.1 pc = .ok (.iload_n k, 1)) (hk : k.val = kk) : Sound Z X CT l MT M pc (lift (pIld kk (pc + 1))) := Sound.pure fun p e R s m args below meth c T locs cells slots Y hx hZ hown hby L S n L' S' h => by
  subst hk
  simp only [pIld] at h
  split at h
  · rename_i hL
    cases h; exact ⟨rfl, fun target ht => XS.iloadN Y.here hx rfl (hb hby hd) (lget hL) ht⟩
  · cases h
theorem s_iload {k : Nat} (hd : decode M.2.1 pc = .ok (.iload k, 2)) : Sound Z X CT l MT M pc (lift (pIld k (pc + 2))) := Sound.pure fun p e R s m args below meth c T locs cells slots Y hx hZ hown hby L S n L' S' h => by
  simp only [pIld] at h
  split at h
  · rename_i hL
    cases h; exact ⟨rfl, fun target ht => XS.iload Y.here hx rfl (hb hby hd) (lget hL) ht⟩
  · cases h
theorem s_lloadN {k : Fin 4} {kk : Nat} (hd : decode M.2.1 pc = .ok (.lload_n k, 1)) (hk : k.val = kk) : Sound Z X CT l MT M pc (lift (pLld kk (pc + 1))) := Sound.pure fun p e R s m args below meth c T locs cells slots Y hx hZ hown hby L S n L' S' h => by
  subst hk
  simp only [pLld] at h
  split at h
  · rename_i hL
    cases h; exact ⟨rfl, fun target ht => XT.lloadN Y.here hx rfl (hb hby hd) (lget hL) ht⟩
  · cases h
theorem s_lload {k : Nat} (hd : decode M.2.1 pc = .ok (.lload k, 2)) : Sound Z X CT l MT M pc (lift (pLld k (pc + 2))) := Sound.pure fun p e R s m args below meth c T locs cells slots Y hx hZ hown hby L S n L' S' h => by
  simp only [pLld] at h
  split at h
  · rename_i hL
    cases h; exact ⟨rfl, fun target ht => XT.lload Y.here hx rfl (hb hby hd) (lget hL) ht⟩
  · cases h
theorem s_aloadN {k : Fin 4} {kk : Nat} (hd : decode M.2.1 pc = .ok (.aload_n k, 1)) (hk : k.val = kk) : Sound Z X CT l MT M pc (lift (pAld kk (pc + 1))) := Sound.pure fun p e R s m args below meth c T locs cells slots Y hx hZ hown hby L S n L' S' h => by
  subst hk
  simp only [pAld] at h
  split at h
  · rename_i hL
    cases h; exact ⟨rfl, fun target ht => XS.aloadN Y.here hx rfl (hb hby hd) (lget hL) rfl ht⟩
  · rename_i hL
    cases h; exact ⟨rfl, fun target ht => XS.aloadN Y.here hx rfl (hb hby hd) (lget hL) rfl ht⟩
  · cases h
theorem s_aload {k : Nat} (hd : decode M.2.1 pc = .ok (.aload k, 2)) : Sound Z X CT l MT M pc (lift (pAld k (pc + 2))) := Sound.pure fun p e R s m args below meth c T locs cells slots Y hx hZ hown hby L S n L' S' h => by
  simp only [pAld] at h
  split at h
  · rename_i hL
    cases h; exact ⟨rfl, fun target ht => XS.aload Y.here hx rfl (hb hby hd) (lget hL) rfl ht⟩
  · rename_i hL
    cases h; exact ⟨rfl, fun target ht => XS.aload Y.here hx rfl (hb hby hd) (lget hL) rfl ht⟩
  · cases h
theorem s_istoreN {k : Fin 4} {kk : Nat} (hd : decode M.2.1 pc = .ok (.istore_n k, 1)) (hk : k.val = kk) : Sound Z X CT l MT M pc (lift (pIst kk (pc + 1))) := Sound.pure fun p e R s m args below meth c T locs cells slots Y hx hZ hown hby L S n L' S' h => by
  subst hk
  simp only [pIst] at h
  split at h
  · split at h
    · rename_i hm
      cases h
      have q := lset (Z := Z) (X := X) hm rfl
      exact ⟨q.2, fun target ht => XS.istoreN Y.here hx rfl (hb hby hd) rfl q.1 ht⟩
    · cases h
  · cases h
theorem s_istore {k : Nat} (hd : decode M.2.1 pc = .ok (.istore k, 2)) : Sound Z X CT l MT M pc (lift (pIst k (pc + 2))) := Sound.pure fun p e R s m args below meth c T locs cells slots Y hx hZ hown hby L S n L' S' h => by
  simp only [pIst] at h
  split at h
  · split at h
    · rename_i hm
      cases h
      have q := lset (Z := Z) (X := X) hm rfl
      exact ⟨q.2, fun target ht => XS.istore Y.here hx rfl (hb hby hd) rfl q.1 ht⟩
    · cases h
  · cases h
theorem s_lstoreN {k : Fin 4} {kk : Nat} (hd : decode M.2.1 pc = .ok (.lstore_n k, 1)) (hk : k.val = kk) : Sound Z X CT l MT M pc (lift (pLst kk (pc + 1))) := Sound.pure fun p e R s m args below meth c T locs cells slots Y hx hZ hown hby L S n L' S' h => by
  subst hk
  simp only [pLst] at h
  split at h
  · split at h
    · rename_i hm
      cases h
      have q := lset2 (Z := Z) (X := X) hm
      exact ⟨q.2, fun target ht => XT.lstoreN Y.here hx rfl (hb hby hd) rfl q.1 ht⟩
    · cases h
  · cases h
theorem s_lstore {k : Nat} (hd : decode M.2.1 pc = .ok (.lstore k, 2)) : Sound Z X CT l MT M pc (lift (pLst k (pc + 2))) := Sound.pure fun p e R s m args below meth c T locs cells slots Y hx hZ hown hby L S n L' S' h => by
  simp only [pLst] at h
  split at h
  · split at h
    · rename_i hm
      cases h
      have q := lset2 (Z := Z) (X := X) hm
      exact ⟨q.2, fun target ht => XT.lstore Y.here hx rfl (hb hby hd) rfl q.1 ht⟩
    · cases h
  · cases h
theorem s_astoreN {k : Fin 4} {kk : Nat} (hd : decode M.2.1 pc = .ok (.astore_n k, 1)) (hk : k.val = kk) : Sound Z X CT l MT M pc (lift (pAst kk (pc + 1))) := Sound.pure fun p e R s m args below meth c T locs cells slots Y hx hZ hown hby L S n L' S' h => by
  subst hk
  simp only [pAst] at h
  split at h
  · split at h
    · rename_i hm
      cases h
      have q := lset (Z := Z) (X := X) hm rfl
      exact ⟨q.2, fun target ht => XS.astoreN Y.here hx rfl (hb hby hd) rfl rfl q.1 ht⟩
    · cases h
  · split at h
    · rename_i hm
      cases h
      have q := lset (Z := Z) (X := X) hm rfl
      exact ⟨q.2, fun target ht => XS.astoreN Y.here hx rfl (hb hby hd) rfl rfl q.1 ht⟩
    · cases h
  · cases h
theorem s_astore {k : Nat} (hd : decode M.2.1 pc = .ok (.astore k, 2)) : Sound Z X CT l MT M pc (lift (pAst k (pc + 2))) := Sound.pure fun p e R s m args below meth c T locs cells slots Y hx hZ hown hby L S n L' S' h => by
  simp only [pAst] at h
  split at h
  · split at h
    · rename_i hm
      cases h
      have q := lset (Z := Z) (X := X) hm rfl
      exact ⟨q.2, fun target ht => XS.astore Y.here hx rfl (hb hby hd) rfl rfl q.1 ht⟩
    · cases h
  · split at h
    · rename_i hm
      cases h
      have q := lset (Z := Z) (X := X) hm rfl
      exact ⟨q.2, fun target ht => XS.astore Y.here hx rfl (hb hby hd) rfl rfl q.1 ht⟩
    · cases h
  · cases h
theorem s_iconst {i : Int} {x : Int32} (hd : decode M.2.1 pc = .ok (.iconst i, 1)) (hx0 : Int32.ofInt i = x) : Sound Z X CT l MT M pc (lift (pInt x (pc + 1))) := Sound.pure fun p e R s m args below meth c T locs cells slots Y hx hZ hown hby L S n L' S' h => by
  subst hx0; cases h; exact ⟨rfl, fun target ht => XS.iconst Y.here hx rfl (hb hby hd) ht⟩
theorem s_bipush {i : Int} {x : Int32} (hd : decode M.2.1 pc = .ok (.bipush i, 2)) (hx0 : (Int8.ofInt i).toInt32 = x) : Sound Z X CT l MT M pc (lift (pInt x (pc + 2))) := Sound.pure fun p e R s m args below meth c T locs cells slots Y hx hZ hown hby L S n L' S' h => by
  subst hx0; cases h; exact ⟨rfl, fun target ht => XS.bipush Y.here hx rfl (hb hby hd) ht⟩
theorem s_sipush {i : Int} {x : Int32} (hd : decode M.2.1 pc = .ok (.sipush i, 3)) (hx0 : (Int16.ofInt i).toInt32 = x) : Sound Z X CT l MT M pc (lift (pInt x (pc + 3))) := Sound.pure fun p e R s m args below meth c T locs cells slots Y hx hZ hown hby L S n L' S' h => by
  subst hx0; cases h; exact ⟨rfl, fun target ht => XS.sipush Y.here hx rfl (hb hby hd) ht⟩
theorem s_lconst {k : Fin 2} {x : Int64} (hd : decode M.2.1 pc = .ok (.lconst k, 1)) (hx0 : Int64.ofNat k = x) : Sound Z X CT l MT M pc (lift (pLong x (pc + 1))) := Sound.pure fun p e R s m args below meth c T locs cells slots Y hx hZ hown hby L S n L' S' h => by
  subst hx0; cases h; exact ⟨rfl, fun target ht => XT.lconst Y.here hx rfl (hb hby hd) ht⟩
theorem s_null (hd : decode M.2.1 pc = .ok (.aconst_null, 1)) : Sound Z X CT l MT M pc (lift (pNull (pc + 1))) := Sound.pure fun p e R s m args below meth c T locs cells slots Y hx hZ hown hby L S n L' S' h => by
  cases h; exact ⟨rfl, fun target ht => XS.aconstNull Y.here hx rfl (hb hby hd) ht⟩
theorem s_ldcInt {i : Nat} {x : Int32} (hd : decode M.2.1 pc = .ok (.ldc i, 2)) (w : (Jvm.Cond.constant M.1.cls i x).before a0 Z = true) : Sound Z X CT l MT M pc (lift (pInt x (pc + 2))) := Sound.pure fun p e R s m args below meth c T locs cells slots Y hx hZ hown hby L S n L' S' h => by
  cases h; exact ⟨rfl, fun target ht => Y.ldcInt hx hown (mvT hZ w) (g := fra Z X m pc L S) rfl (hb hby hd) _ ht⟩
theorem s_ldc2Long {i : Nat} {x : Int64} (hd : decode M.2.1 pc = .ok (.ldc2_w i, 3)) (w : (Jvm.Cond.constantLong M.1.cls i x).before a0 Z = true) : Sound Z X CT l MT M pc (lift (pLong x (pc + 3))) := Sound.pure fun p e R s m args below meth c T locs cells slots Y hx hZ hown hby L S n L' S' h => by
  cases h; exact ⟨rfl, fun target ht => Y.ldc2Long hx hown (mvT hZ w) (g := fra Z X m pc L S) rfl (hb hby hd) _ ht⟩
theorem s_iinc {k : Nat} {cst : Int} {d : Int32} (hd : decode M.2.1 pc = .ok (.iinc k cst, 3)) (hd0 : Int32.ofInt cst = d) : Sound Z X CT l MT M pc (lift (pInc k d (pc + 3))) := Sound.pure fun p e R s m args below meth c T locs cells slots Y hx hZ hown hby L S n L' S' h => by
  subst hd0
  simp only [pInc] at h
  split at h
  · rename_i x hL
    cases h
    have hm : mset L k (.int (x + Int32.ofInt cst)) = some (L.set k (.val (.int (x + Int32.ofInt cst)))) := by simp [mset, hL, Value.category]
    have q := lset (Z := Z) (X := X) hm rfl
    exact ⟨q.2, fun target ht => XS.iinc Y.here hx rfl (hb hby hd) (lget hL) q.1 ht⟩
  · cases h
theorem s_goto {o : Int} {t : Nat} (hd : decode M.2.1 pc = .ok (.goto o, 3)) (ho : 0 ≤ (pc : Int) + o) (hp : ((pc : Int) + o).toNat = t) : Sound Z X CT l MT M pc (lift (pGoto t)) := Sound.pure fun p e R s m args below meth c T locs cells slots Y hx hZ hown hby L S n L' S' h => by
  cases h; exact ⟨rfl, fun target ht => XS.goto Y.here hx rfl (pc0 := pc) rfl (hb hby hd) ho hp ht⟩
theorem s_if {cd : ClassFile.Cond} {o : Int} {t : Nat} (hd : decode M.2.1 pc = .ok (.ifCond cd o, 3)) (ho : 0 ≤ (pc : Int) + o) (hp : ((pc : Int) + o).toNat = t) : Sound Z X CT l MT M pc (lift (pIf cd t (pc + 3))) := Sound.pure fun p e R s m args below meth c T locs cells slots Y hx hZ hown hby L S n L' S' h => by
  simp only [pIf] at h
  split at h
  · split at h
    · rename_i hc
      cases h; exact ⟨rfl, fun target ht => XS.ifYes Y.here hx rfl (pc0 := pc) rfl (hb hby hd) rfl hc ho hp ht⟩
    · rename_i hc
      cases h; exact ⟨rfl, fun target ht => XS.ifNo Y.here hx rfl (hb hby hd) rfl hc ht⟩
  · cases h
theorem s_icmp {cd : ClassFile.Cond} {o : Int} {t : Nat} (hd : decode M.2.1 pc = .ok (.if_icmp cd o, 3)) (ho : 0 ≤ (pc : Int) + o) (hp : ((pc : Int) + o).toNat = t) : Sound Z X CT l MT M pc (lift (pIcmp cd t (pc + 3))) := Sound.pure fun p e R s m args below meth c T locs cells slots Y hx hZ hown hby L S n L' S' h => by
  simp only [pIcmp] at h
  split at h
  · split at h
    · rename_i hc
      cases h; exact ⟨rfl, fun target ht => XS.icmpYes Y.here hx rfl (pc0 := pc) rfl (hb hby hd) rfl hc ho hp ht⟩
    · rename_i hc
      cases h; exact ⟨rfl, fun target ht => XS.icmpNo Y.here hx rfl (hb hby hd) rfl hc ht⟩
  · cases h
theorem s_ifnull {o : Int} {t : Nat} (hd : decode M.2.1 pc = .ok (.ifnull o, 3)) (ho : 0 ≤ (pc : Int) + o) (hp : ((pc : Int) + o).toNat = t) : Sound Z X CT l MT M pc (lift (pNullYes t (pc + 3))) := Sound.pure fun p e R s m args below meth c T locs cells slots Y hx hZ hown hby L S n L' S' h => by
  simp only [pNullYes] at h
  split at h
  · cases h; exact ⟨rfl, fun target ht => XS.ifnullYes Y.here hx rfl (pc0 := pc) rfl (hb hby hd) rfl ho hp ht⟩
  · cases h; exact ⟨rfl, fun target ht => XS.ifnullNo Y.here hx rfl (hb hby hd) rfl ht⟩
  · cases h
theorem s_ifnonnull {o : Int} {t : Nat} (hd : decode M.2.1 pc = .ok (.ifnonnull o, 3)) (ho : 0 ≤ (pc : Int) + o) (hp : ((pc : Int) + o).toNat = t) : Sound Z X CT l MT M pc (lift (pNullYes (pc + 3) t)) := Sound.pure fun p e R s m args below meth c T locs cells slots Y hx hZ hown hby L S n L' S' h => by
  simp only [pNullYes] at h
  split at h
  · cases h; exact ⟨rfl, fun target ht => XT.ifnonnullNo Y.here hx rfl (hb hby hd) rfl ht⟩
  · cases h; exact ⟨rfl, fun target ht => XT.ifnonnullYes Y.here hx rfl (pc0 := pc) rfl (hb hby hd) rfl ho hp ht⟩
  · cases h
theorem s_dup (hd : decode M.2.1 pc = .ok (.dup, 1)) : Sound Z X CT l MT M pc (lift (pDup (pc + 1))) := Sound.pure fun p e R s m args below meth c T locs cells slots Y hx hZ hown hby L S n L' S' h => by
  simp only [pDup] at h
  split at h
  · split at h
    · rename_i hc
      cases h; exact ⟨rfl, fun target ht => XS.dup Y.here hx rfl (hb hby hd) rfl (by rw [ab_cat]; exact hc) ht⟩
    · cases h
  · cases h
theorem s_pop (hd : decode M.2.1 pc = .ok (.pop, 1)) : Sound Z X CT l MT M pc (lift (pPop (pc + 1))) := Sound.pure fun p e R s m args below meth c T locs cells slots Y hx hZ hown hby L S n L' S' h => by
  simp only [pPop] at h
  split at h
  · split at h
    · rename_i hc
      cases h; exact ⟨rfl, fun target ht => XT.pop Y.here hx rfl (hb hby hd) rfl (by rw [ab_cat]; exact hc) ht⟩
    · cases h
  · cases h
theorem s_dupX1 (hd : decode M.2.1 pc = .ok (.dup_x1, 1)) : Sound Z X CT l MT M pc (lift (pDupX1 (pc + 1))) := Sound.pure fun p e R s m args below meth c T locs cells slots Y hx hZ hown hby L S n L' S' h => by
  simp only [pDupX1] at h
  split at h
  · split at h
    · rename_i hc hc'
      cases h; exact ⟨rfl, fun target ht => XT.dupX1 Y.here hx rfl (hb hby hd) rfl (by rw [ab_cat]; exact hc) (by rw [ab_cat]; exact hc') ht⟩
    · cases h
  · cases h
theorem s_dup2 (hd : decode M.2.1 pc = .ok (.dup2, 1)) : Sound Z X CT l MT M pc (lift (pDup2 (pc + 1))) := Sound.pure fun p e R s m args below meth c T locs cells slots Y hx hZ hown hby L S n L' S' h => by
  simp only [pDup2] at h
  split at h
  · split at h
    · rename_i hc hc'
      cases h; exact ⟨rfl, fun target ht => XT.dup2 Y.here hx rfl (hb hby hd) rfl (by rw [ab_cat]; exact hc) (by rw [ab_cat]; exact hc') ht⟩
    · cases h
  · cases h
theorem s_dupX2 (hd : decode M.2.1 pc = .ok (.dup_x2, 1)) : Sound Z X CT l MT M pc (lift (pDupX2 (pc + 1))) := Sound.pure fun p e R s m args below meth c T locs cells slots Y hx hZ hown hby L S n L' S' h => by
  simp only [pDupX2] at h
  split at h
  · split at h
    · rename_i x y z S0 _ _ _ hc hc' hc''
      cases h
      refine ⟨rfl, fun target ht => ?_⟩
      have e1 : (ab Z X x).category = 1 := by rw [ab_cat]; exact hc
      have e2 : (ab Z X y).category = 1 := by rw [ab_cat]; exact hc'
      have e3 : (ab Z X z).category = 1 := by rw [ab_cat]; exact hc''
      have hd' := hb hby hd
      jvm_step Y.here [Y.here.top, hx, hd', e1, e2, e3]
      exact ht
    · cases h
  · cases h
/-! references compared -/
theorem same_spec {xl : Nat} (hxl : ∀ i j, i ≠ j → (xl ≤ i ∨ xl ≤ j) → ph Z X i ≠ ph Z X j) {x y : Value} {b : Bool} (h : same xl x y = some b) : (ab Z X x).isRef = true ∧ (ab Z X y).isRef = true ∧ decide (ab Z X x = ab Z X y) = b := by
  cases x <;> cases y <;> simp only [same, reduceCtorEq] at h
  · cases h; exact ⟨rfl, rfl, by simp [ab]⟩
  · cases h; exact ⟨rfl, rfl, by simp [ab]⟩
  · cases h; exact ⟨rfl, rfl, by simp [ab]⟩
  · rename_i i j
    refine ⟨rfl, rfl, ?_⟩
    cases hb : Nat.beq i j with
    | true => rw [hb] at h; cases h; cases Nat.eq_of_beq_eq_true hb; simp
    | false =>
      rw [hb] at h
      cases hc : (Nat.ble xl i || Nat.ble xl j) with
      | false => simp [hc] at h
      | true =>
        simp only [hc, Option.some.injEq] at h
        subst h
        have hne : i ≠ j := Nat.ne_of_beq_eq_false hb
        have := hxl i j hne (by rcases Bool.or_eq_true_iff.mp hc with q | q; exact Or.inl (Nat.le_of_ble_eq_true q); exact Or.inr (Nat.le_of_ble_eq_true q))
        simp [ab, this]
theorem s_acmpeq {xl : Nat} (hxl : ∀ i j, i ≠ j → (xl ≤ i ∨ xl ≤ j) → ph Z X i ≠ ph Z X j) {o : Int} {t : Nat} (hd : decode M.2.1 pc = .ok (.if_acmp .eq o, 3)) (ho : 0 ≤ (pc : Int) + o) (hp : ((pc : Int) + o).toNat = t) : Sound Z X CT l MT M pc (lift (pAcmp xl t (pc + 3))) := Sound.pure fun p e R s m args below meth c T locs cells slots Y hx hZ hown hby L S n L' S' h => by
  simp only [pAcmp] at h
  split at h
  · split at h
    · rename_i hs
      cases h
      obtain ⟨q1, q2, q3⟩ := same_spec hxl hs
      exact ⟨rfl, fun target ht => XT.acmpYes Y.here hx rfl (pc0 := pc) rfl (hb hby hd) rfl q1 q2 q3 ho hp ht⟩
    · rename_i hs
      cases h
      obtain ⟨q1, q2, q3⟩ := same_spec hxl hs
      exact ⟨rfl, fun target ht => XT.acmpNo Y.here hx rfl (hb hby hd) rfl q1 q2 q3 ht⟩
    · cases h
  · cases h
theorem s_acmpne {xl : Nat} (hxl : ∀ i j, i ≠ j → (xl ≤ i ∨ xl ≤ j) → ph Z X i ≠ ph Z X j) {o : Int} {t : Nat} (hd : decode M.2.1 pc = .ok (.if_acmp .ne o, 3)) (ho : 0 ≤ (pc : Int) + o) (hp : ((pc : Int) + o).toNat = t) : Sound Z X CT l MT M pc (lift (pAcmp xl (pc + 3) t)) := Sound.pure fun p e R s m args below meth c T locs cells slots Y hx hZ hown hby L S n L' S' h => by
  simp only [pAcmp] at h
  split at h
  · split at h
    · rename_i hs
      cases h
      obtain ⟨q1, q2, q3⟩ := same_spec hxl hs
      exact ⟨rfl, fun target ht => XT.acmpNo Y.here hx rfl (hb hby hd) rfl q1 q2 (by simpa [XT.acmp] using of_decide_eq_true q3) ht⟩
    · rename_i hs
      cases h
      obtain ⟨q1, q2, q3⟩ := same_spec hxl hs
      exact ⟨rfl, fun target ht => XT.acmpYes Y.here hx rfl (pc0 := pc) rfl (hb hby hd) rfl q1 q2 (by simpa [XT.acmp] using of_decide_eq_false q3) ho hp ht⟩
    · cases h
  · cases h
end Plain
/-! ### returns and calls -/
section Ends
variable {Z : State} {X : List Addr} {CT : Tab} {l : Launch} {MT : List MI} {M : MI} {pc : Nat} {a0 : Array Value}
theorem s_retI {t : FieldType} (hd : decode M.2.1 pc = .ok (.ireturn, 1)) (hr : M.2.2.2.1 = some t) (ht : t = .int ∨ t = .boolean ∨ t = .byte ∨ t = .char ∨ t = .short) : Sound Z X CT l MT M pc (oRetI t) := by
  refine ⟨fun _ _ _ _ _ _ _ h => h, fun call L S H r hc h => ?_, ?_⟩
  · simp only [oRetI] at h
    split at h
    · cases h; exact Up.refl _
    · cases h
  · intro p e R s m args below meth c hx hZ hown hby hnm hret hlk hf hl call hcall H0 Hf hRc hRs T L S H hs r h
    simp only [oRetI] at h
    split at h
    · rename_i x S'
      cases h
      obtain ⟨locs, Y, hrep, hfr, hlen, h1, h2, h3⟩ := hs
      have hret' : meth.sig.returnType = some t := hret.trans hr
      obtain ⟨fs, hl', hrun, hended, hW, hsame⟩ := Y.leave (v := some (.int (nar t x))) (fun q => by rw [hret'] at q; cases q)
      refine ⟨rfl, _, ?_, hrun, hended, ⟨locs, hfr, ⟨_, rfl⟩, hW, hsame⟩, hrep⟩
      have hm' := Y.method'
      have hd' := hb hby hd
      have hn : narrow t (.int x) = .int (nar t x) := by rcases ht with rfl | rfl | rfl | rfl | rfl <;> rfl
      show Steps p.tables e below (T.setTop { method := m, pc := pc, locals := _, stack := Value.int x :: _, locked := none }) _
      rcases ht with rfl | rfl | rfl | rfl | rfl
      all_goals
        jvm_step Y.here [Y.here.top, hx, hd', hm', hret', hn]
        first | (intro acts; rw [hl' _ acts rfl rfl rfl]) | rw [hl' _ _ rfl rfl rfl]
        exact Steps.refl _
    · cases h
theorem s_retL (hd : decode M.2.1 pc = .ok (.lreturn, 1)) (hr : M.2.2.2.1 = some .long) : Sound Z X CT l MT M pc oRetL := by
  refine ⟨fun _ _ _ _ _ _ _ h => h, fun call L S H r hc h => ?_, ?_⟩
  · simp only [oRetL] at h
    split at h
    · cases h; exact Up.refl _
    · cases h
  · intro p e R s m args below meth c hx hZ hown hby hnm hret hlk hf hl call hcall H0 Hf hRc hRs T L S H hs r h
    simp only [oRetL] at h
    split at h
    · rename_i x
      cases h
      obtain ⟨locs, Y, hrep, hfr, hlen, h1, h2, h3⟩ := hs
      have hret' : meth.sig.returnType = some .long := hret.trans hr
      obtain ⟨fs, hl', hrun, hended, hW, hsame⟩ := Y.leave (v := some (.long x)) (fun q => by rw [hret'] at q; cases q)
      exact ⟨rfl, _, retOut Y hx hret' rfl (Or.inr (Or.inl ⟨rfl, rfl, x, rfl⟩)) (hb hby hd) hl', hrun, hended, ⟨locs, hfr, ⟨_, rfl⟩, hW, hsame⟩, hrep⟩
    · cases h
theorem s_retA {t : FieldType} (hd : decode M.2.1 pc = .ok (.areturn, 1)) (hr : M.2.2.2.1 = some t) (ht : t.isReference = true) : Sound Z X CT l MT M pc oRetA := by
  refine ⟨fun _ _ _ _ _ _ _ h => h, fun call L S H r hc h => ?_, ?_⟩
  · simp only [oRetA] at h
    split at h
    · cases h; exact Up.refl _
    · cases h; exact Up.refl _
    · cases h
  · intro p e R s m args below meth c hx hZ hown hby hnm hret hlk hf hl call hcall H0 Hf hRc hRs T L S H hs r h
    simp only [oRetA] at h
    have hret' : meth.sig.returnType = some t := hret.trans hr
    split at h
    · rename_i x S'
      cases h
      obtain ⟨locs, Y, hrep, hfr, hlen, h1, h2, h3⟩ := hs
      obtain ⟨fs, hl', hrun, hended, hW, hsame⟩ := Y.leave (v := some (ab Z X (.ref x))) (fun q => by rw [hret'] at q; cases q)
      exact ⟨rfl, _, retOut Y hx hret' (by cases t <;> first | rfl | cases ht) (Or.inr (Or.inr (Or.inr (Or.inr ⟨rfl, ht, rfl⟩)))) (hb hby hd) hl', hrun, hended, ⟨locs, hfr, ⟨_, rfl⟩, hW, hsame⟩, hrep⟩
    · rename_i S'
      cases h
      obtain ⟨locs, Y, hrep, hfr, hlen, h1, h2, h3⟩ := hs
      obtain ⟨fs, hl', hrun, hended, hW, hsame⟩ := Y.leave (v := some .null) (fun q => by rw [hret'] at q; cases q)
      exact ⟨rfl, _, retOut Y hx hret' (by cases t <;> first | rfl | cases ht) (Or.inr (Or.inr (Or.inr (Or.inr ⟨rfl, ht, rfl⟩)))) (hb hby hd) hl', hrun, hended, ⟨locs, hfr, ⟨_, rfl⟩, hW, hsame⟩, hrep⟩
    · cases h
theorem s_ret (hd : decode M.2.1 pc = .ok (.return_, 1)) (hr : M.2.2.2.1 = none) : Sound Z X CT l MT M pc oRet := by
  refine ⟨fun _ _ _ _ _ _ _ h => h, fun call L S H r hc h => ?_, ?_⟩
  · simp only [oRet] at h
    split at h
    · cases h; exact Up.refl _
    · cases h
  · intro p e R s m args below meth c hx hZ hown hby hnm hret hlk hf hl call hcall H0 Hf hRc hRs T L S H hs r h
    simp only [oRet] at h
    split at h
    · cases h
      obtain ⟨locs, Y, hrep, hfr, hlen, h1, h2, h3⟩ := hs
      obtain ⟨fs, hl', hrun, hended, hW, hsame⟩ := Y.leave (v := none) (fun _ => rfl)
      exact ⟨rfl, _, Y.returnOut hx (hret.trans hr) (hb hby hd) hl', hrun, hended, ⟨locs, hfr, ⟨_, rfl⟩, hW, hsame⟩, hrep⟩
    · cases h
theorem wt_map (S : List Value) : ((S.map (ab Z X)).map fun v => v.category).sum = wt S := by
  induction S with
  | nil => rfl
  | cons v r ih => simp only [List.map_cons, List.sum_cons, wt, ab_cat] at ih ⊢; rw [ih]
theorem mono_call (μ na W n : Nat) : Mono (oCall μ na W n) := fun c c' L S H r hl h => by
  simp only [oCall] at h ⊢
  split at h
  · rename_i hg
    rw [if_pos hg]
    split at h
    · rename_i hq
      rw [hl _ _ _ _ hq]; exact h
    · cases h
  · cases h
theorem grow_call (μ na W n : Nat) : Grow CT (oCall μ na W n) := fun call L S H r hc h => by
  simp only [oCall] at h
  split at h
  · split at h
    · rename_i hq
      cases h; exact hc _ _ _ _ _ hq
    · cases h
  · cases h
theorem s_callS {μ na W idx : Nat} {Mc : MI} {ps : List FieldType} {rt : Option FieldType} (hd : decode M.2.1 pc = .ok (.invokestatic idx, 3)) (hMc : MT[μ]? = some Mc) (w1 : (Jvm.Cond.methodLink M.1.cls idx Mc.1).before a0 Z = true) (w2 : (Jvm.Cond.static Mc.1).before a0 Z = true) (w3 : (Jvm.Cond.initialized Mc.1.cls).before a0 Z = true) (w4 : (Jvm.Cond.code Mc.1 Mc.2.1 Mc.2.2.1 Mc.2.2.2.1).before a0 Z = true)
    (hpd : parseMethodDescriptor Mc.1.desc = some ⟨ps, rt⟩) (hna : ps.length = na) (hy : Mc.1.cls ≠ "java/lang/invoke/MethodHandle" ∧ Mc.1.cls ≠ "java/lang/invoke/VarHandle") (hf0 : Mc.2.2.2.2.1 + 1 ≤ M.2.2.2.2.1) (hl0 : W + (Mc.2.2.1 + 11) + Mc.2.2.2.2.2 ≤ M.2.2.2.2.2) : Sound Z X CT l MT M pc (oCall μ na W (pc + 3)) := by
  refine ⟨mono_call _ _ _ _, grow_call _ _ _ _, ?_⟩
  intro p e R s m args below meth c hx hZ hown hby hnm hret hlk hf hl call hcall H0 Hf hRc hRs T L S H hs r h
  simp only [oCall] at h
  split at h
  · rename_i hg
    obtain ⟨hg1, hg2⟩ := hg
    split at h
    · rename_i v H' hq
      cases h
      obtain ⟨⟨u1, u2⟩, M', hM', con⟩ := hcall _ _ _ _ _ hq
      cases hMc.symm.trans hM'
      intro b1 b2
      obtain ⟨locs, Y, hrep, hfr, hlen, h1, h2, h3⟩ := hs
      have B := backOf (W := W) (args := args) (below := below) (p := p) (e := e) (R := R) (len := 3) (Q := fun w hh L => w = v.map (ab Z X) ∧ Fr Z.heap.size L ∧ Rep Z X CT hh H') (con T.heap hrep) hZ w4 w3 (Nat.le_trans hf0 hf) (Nat.le_trans hl0 hl)
      have hst : (fra Z X m pc L S).stack = (((S.take na).reverse).map (ab Z X)).reverse ++ (S.drop na).map (ab Z X) := by
        show S.map (ab Z X) = _
        rw [← List.map_reverse, List.reverse_reverse, ← List.map_append, List.take_append_drop]
      obtain ⟨v', vm₁, ⟨T', L', k', n'⟩, -, Y', ⟨Lc, ⟨hv, hfrL, hrep'⟩, l', y', z'⟩, st⟩ := Jvm.LawKit.callS Y hx (y := Mc.1) hown (mvT hZ w1) (mvT hZ w2) (mvT hZ w3) (mvT hZ w4) hy B (g := fra Z X m pc L S) rfl (by show (List.toArray _).size = _; simp [hlen]) (argsL := ((S.take na).reverse).map (ab Z X)) (rest := (S.drop na).map (ab Z X)) (lenOf hpd (by simp [hna]; omega)) hst (by rw [wt_map]; simpa using hg2) (hb hby hd) (fun _ _ => ⟨rfl, rfl, by show (H.length - H0.length) + (H'.length - H.length) ≤ R.cells; omega, by show (sz CT H - sz CT H0) + (sz CT H' - sz CT H) ≤ R.slots; omega⟩)
      dsimp only [Pt.U, Pt.locs, Pt.cells, Pt.slots] at Y' l' y' z' st hrep'
      subst l' y' z' hv
      refine ⟨T', ⟨locs ++ Lc, ?_, hrep', Fr.app hfr hfrL, hlen, by omega, by omega, h3⟩, ?_⟩
      · have e1 : (H.length - H0.length) + (H'.length - H.length) = H'.length - H0.length := by omega
        have e2 : (sz CT H - sz CT H0) + (sz CT H' - sz CT H) = sz CT H' - sz CT H0 := by omega
        rw [← e1, ← e2]; exact Y'
      · intro target ht
        refine st _ ?_
        have e3 : (v.toList ++ S.drop na).map (ab Z X) = (v.map (ab Z X)).toList ++ (S.drop na).map (ab Z X) := by cases v <;> simp
        show Steps p.tables e below (T'.setTop (mkF m (pc + 3) _ _)) target
        rw [← e3]; exact ht
    · cases h
  · cases h
end Ends
end Jvm.MV
namespace Jvm.MV
open Jvm Jvm.ClassFile Sem Op Lib Jvm.Free Jvm.Stand Jvm.LawKit Jvm.RoadKit Bundle
/-! ### steps that make, read and write cells -/
def oNewA (k : Nat) (dv : Value) (n : Nat) : MOp := fun _ L S H => match S with
  | .int z :: S' => if z < 0 then none else if z.toNatClampNeg * 8 ≤ 536870912 then some (.inl (n, L, .ref H.length :: S', H ++ [(k, List.replicate z.toNatClampNeg dv)])) else none
  | _ => none
def oNew (k : Nat) (ds : List Value) (n : Nat) : MOp := fun _ L S H => some (.inl (n, L, .ref H.length :: S, H ++ [(k, ds)]))
/-- read place j of an array of kind k -/
def oALd (k : Nat) (n : Nat) : MOp := fun _ L S H => match S with
  | .int j :: .ref a :: S' => match H[a]? with
    | some (k', vs) => match Nat.beq k' k with
      | true => if j < 0 then none else match vs[j.toNatClampNeg]? with
        | some v => some (.inl (n, L, v :: S', H))
        | none => none
      | false => none
    | none => none
  | _ => none
def oASt (xl : Nat) (k : Nat) (t : FieldType) (n : Nat) : MOp := fun _ L S H => match S with
  | .int x :: .int j :: .ref a :: S' => match H[a]? with
    | some (k', vs) => match Nat.beq k' k && Nat.ble xl a with
      | true => if j < 0 then none else match Nat.ble vs.length j.toNatClampNeg with
        | false => some (.inl (n, L, S', H.set a (k', vs.set j.toNatClampNeg (.int (nar t x)))))
        | true => none
      | false => none
    | none => none
  | _ => none
def oALen (k : Nat) (n : Nat) : MOp := fun _ L S H => match S with
  | .ref a :: S' => match H[a]? with
    | some (k', vs) => match Nat.beq k' k with
      | true => some (.inl (n, L, .int vs.length.toInt32 :: S', H))
      | false => none
    | none => none
  | _ => none
def oGetF (k pos n : Nat) : MOp := fun _ L S H => match S with
  | .ref a :: S' => match H[a]? with
    | some (k', vs) => match Nat.beq k' k with
      | true => match vs[pos]? with
        | some v => some (.inl (n, L, v :: S', H))
        | none => none
      | false => none
    | none => none
  | _ => none
/-- a value as a field of this type takes it -/
def cv : FieldType → Value → Option Value
  | .int, .int x => some (.int x)
  | .boolean, .int x => some (.int (nar .boolean x))
  | .byte, .int x => some (.int (nar .byte x))
  | .long, .long x => some (.long x)
  | .object _, .null => some .null
  | .object _, .ref a => some (.ref a)
  | .array _, .null => some .null
  | .array _, .ref a => some (.ref a)
  | _, _ => none
def oPutF (xl : Nat) (k pos : Nat) (ty : FieldType) (n : Nat) : MOp := fun _ L S H => match S with
  | v :: .ref a :: S' => match H[a]? with
    | some (k', vs) => match Nat.beq k' k && Nat.ble xl a with
      | true => match cv ty v with
        | some v' => some (.inl (n, L, S', H.set a (k', vs.set pos v')))
        | none => none
      | false => none
    | none => none
  | _ => none
def oInit0 (W n : Nat) : MOp := fun _ L S H => match S with
  | .ref _ :: S' => if wt S' ≤ W then some (.inl (n, L, S', H)) else none
  | _ => none
/-- a call whose receiver is an object of kind k -/
def oCallR (k μ na W n : Nat) : MOp := fun call L S H =>
  if na + 1 ≤ S.length ∧ wt (S.drop (na + 1)) ≤ W then match S[na]? with
    | some (.ref a) => match H[a]? with
      | some (k', _) => match Nat.beq k' k with
        | true => match call μ (.ref a :: (S.take na).reverse) H with
          | some (v, H') => some (.inl (n, L, v.toList ++ S.drop (na + 1), H'))
          | none => none
        | false => none
      | none => none
    | _ => none
  else none
section Heap
variable {Z : State} {X : List Addr} {CT : Tab} {l : Launch} {MT : List MI} {M : MI} {pc : Nat} {a0 : Array Value} {h h' : Heap} {H : MH} {i k : Nat} {vs : List Value}
theorem ph_fresh (hi : X.length ≤ i) : ph Z X i = Z.heap.size + (i - X.length) := by
  simp [ph, List.getElem?_eq_none hi]
theorem ph_old (hX : ∀ a ∈ X, a < Z.heap.size) (hi : i < X.length) : ph Z X i < Z.heap.size := by
  simp only [ph, List.getElem?_eq_getElem hi]; exact hX _ (List.getElem_mem hi)
theorem ph_ne (hX : ∀ a ∈ X, a < Z.heap.size) {j : Nat} (hij : i ≠ j) (hi : X.length ≤ i ∨ X.length ≤ j) : ph Z X i ≠ ph Z X j := by
  rcases Nat.lt_or_ge i X.length with h1 | h1 <;> rcases Nat.lt_or_ge j X.length with h2 | h2
  · omega
  · have := ph_old hX h1; have := ph_fresh (Z := Z) h2; omega
  · have := ph_old hX h2; have := ph_fresh (Z := Z) h1; omega
  · have := ph_fresh (Z := Z) h1; have := ph_fresh (Z := Z) h2; omega
theorem CellOk.ext {a : Addr} (E : Ext h h') (q : CellOk Z X CT h a k vs) : CellOk Z X CT h' a k vs := by
  simp only [CellOk] at q ⊢
  split at q
  · obtain ⟨c, A, s, q1, q2⟩ := q
    exact ⟨c, A.ext E, s, fun w => (q1 w).ext E, q2⟩
  · exact ⟨q.1.ext E, q.2.1, fun j O nm d ty v h1 h2 => (q.2.2 j O nm d ty v h1 h2).ext E⟩
  · exact q
theorem CellOk.other {a b : Addr} {sl : Nat} {v : Value} (W : Wr h h' b sl v) (hne : a ≠ b) (q : CellOk Z X CT h a k vs) : CellOk Z X CT h' a k vs := by
  simp only [CellOk] at q ⊢
  split at q
  · obtain ⟨c, A, s, q1, q2⟩ := q
    exact ⟨c, A.other W hne, s, fun w => (q1 w).wr W, q2⟩
  · exact ⟨q.1.wr W, q.2.1, fun j O nm d ty v h1 h2 => (q.2.2 j O nm d ty v h1 h2).other W (Or.inl hne)⟩
  · exact q
theorem Rep.push (R : Rep Z X CT h H) (E : Ext h h') (hs : h'.size = h.size + 1) (hc : CellOk Z X CT h' h.size k vs) : Rep Z X CT h' (H ++ [(k, vs)]) := by
  obtain ⟨r1, r2, r3, r4⟩ := R
  refine ⟨by simp; omega, by simp; omega, fun a ha => ?_, fun i k' vs' hi => ?_⟩
  · have hlt : a < h.size := by omega
    have e1 : h[a]? = some h[a] := Array.getElem?_eq_getElem hlt
    rw [E.2 _ _ e1, ← e1]; exact r3 a ha
  · rcases Nat.lt_trichotomy i H.length with q | q | q
    · rw [List.getElem?_append_left q] at hi
      exact (r4 i k' vs' hi).ext E
    · subst q
      simp at hi
      obtain ⟨rfl, rfl⟩ := hi
      rw [ph_fresh r1, ← r2]; exact hc
    · rw [List.getElem?_eq_none (by simp; omega)] at hi; cases hi
theorem Rep.at (R : Rep Z X CT h H) {q : Nat × List Value} (hi : H[i]? = some q) : CellOk Z X CT h (ph Z X i) q.1 q.2 := R.2.2.2 i q.1 q.2 hi
theorem Rep.upd (hX : ∀ a ∈ X, a < Z.heap.size) (R : Rep Z X CT h H) (hi : X.length ≤ i) {sl : Nat} {v : Value} (W : Wr h h' (ph Z X i) sl v) (hc : CellOk Z X CT h' (ph Z X i) k vs) : Rep Z X CT h' (H.set i (k, vs)) := by
  obtain ⟨r1, r2, r3, r4⟩ := R
  refine ⟨by simpa using r1, by rw [W.size]; simpa using r2, fun a ha => ?_, fun j k' vs' hj => ?_⟩
  · have hne : a ≠ ph Z X i := by have := ph_fresh (Z := Z) hi; omega
    rw [← r3 a ha]
    obtain ⟨cell, -, -, -, rfl⟩ := W
    rw [Array.getElem?_setIfInBounds_ne (Ne.symm hne)]
  · by_cases e : j = i
    · subst e
      by_cases hl : j < H.length
      · rw [List.getElem?_set_self hl] at hj
        cases hj; exact hc
      · rw [List.getElem?_eq_none (by simp; omega)] at hj; cases hj
    · rw [List.getElem?_set_ne (Ne.symm e)] at hj
      exact (r4 j k' vs' hj).other W (ph_ne hX e (Or.inr hi))
theorem sz_app (H : MH) (q : Nat × List Value) : sz CT (H ++ [q]) = sz CT H + szc CT q := by simp [sz]
theorem sz_set {q q' : Nat × List Value} (hi : H[i]? = some q) (hq : szc CT q' = szc CT q) : sz CT (H.set i q') = sz CT H := by
  have e : (H.set i q').map (szc CT) = H.map (szc CT) := by
    rw [List.map_set, hq]
    refine List.ext_getElem? fun j => ?_
    by_cases hj : i = j
    · subst hj
      have hl : i < H.length := (List.getElem?_eq_some_iff.mp hi).1
      rw [List.getElem?_set_self (by simpa using hl)]
      simp [hi]
    · rw [List.getElem?_set_ne hj]
  simp only [sz, e]
theorem ab_default (t : FieldType) : ab Z X (defaultValue t) = defaultValue t := by cases t <;> rfl
theorem grow_newA (k : Nat) (dv : Value) (n : Nat) : Grow CT (oNewA k dv n) := fun call L S H r hc h => by
  simp only [oNewA] at h
  split at h
  · split at h
    · cases h
    · split at h
      · cases h; exact ⟨by simp [hOf], by simp only [hOf, sz_app]; omega⟩
      · cases h
  · cases h
theorem s_newA {aty : ArrayType} {n1 : Nat} {fs : List (String × String × String × FieldType)} (hd : decode M.2.1 pc = .ok (.newarray aty, 2)) (w : (Jvm.Cond.arrayClass (newarray.typeOf aty)).before a0 Z = true) (hk : CT[k]? = some (.array (newarray.typeOf aty), n1, fs)) {dv : Value} (hdv : defaultValue (newarray.typeOf aty) = dv) : Sound Z X CT l MT M pc (oNewA k dv (pc + 2)) := by
  subst hdv
  refine ⟨fun _ _ _ _ _ _ _ h => h, grow_newA _ _ _, ?_⟩
  intro p e R s m args below meth c hx hZ hown hby hnm hret hlk hf hl call hcall H0 Hf hRc hRs T L S H hs r h
  simp only [oNewA] at h
  split at h
  · rename_i z S'
    split at h
    · cases h
    · rename_i hz
      split at h
      · rename_i hbig
        cases h
        intro b1 b2
        obtain ⟨locs, Y, hrep, hfr, hlen, h1, h2, h3⟩ := hs
        have es : szc CT (k, List.replicate z.toNatClampNeg (defaultValue (newarray.typeOf aty))) = z.toNatClampNeg := by simp [szc, hk]
        rw [sz_app, es] at b2
        simp at b1
        obtain ⟨T', h', cA, Y', e', E, A, Ex, st⟩ := newPE Y hx hZ w rfl (g := fra Z X m pc L (.int z :: S')) rfl (hb hby hd) rfl hz (cap := z.toNatClampNeg) (Nat.le_refl _) hbig (by omega) (by omega) rfl
        have hsz : h'.size = T.heap.size + 1 := by
          have q1 : T.heap.size < h'.size := A.lt
          have q2 : T'.heap.size ≤ _ := Y'.heapSize
          have q3 := hrep.2.1
          obtain ⟨u1, u2⟩ := h3
          have q4 := hrep.1
          rw [e'] at q2
          omega
        refine ⟨T', ⟨locs, ?_, ?_, hfr, hlen, by simp; omega, by rw [sz_app]; omega, h3⟩, fun target ht => st _ ?_⟩
        · have e1 : (H ++ [(k, List.replicate z.toNatClampNeg (defaultValue (newarray.typeOf aty)))]).length - H0.length = H.length - H0.length + 1 := by simp; omega
          have e2 : sz CT (H ++ [(k, List.replicate z.toNatClampNeg (defaultValue (newarray.typeOf aty)))]) - sz CT H0 = sz CT H - sz CT H0 + z.toNatClampNeg := by rw [sz_app, es]; omega
          rw [e1, e2]; exact Y'
        · rw [e']
          refine hrep.push E hsz ?_
          simp only [CellOk, hk]
          refine ⟨_, A, ?_, fun _ => Ex, fun _ C hC => ?_⟩
          · simp [newA, ab_default]
          · cases aty <;> simp [newarray.typeOf] at hC
        · have e3 : ab Z X (.ref H.length) = .ref T.heap.size := by simp only [ab, ph_fresh hrep.1, hrep.2.1]
          show Steps p.tables e below (T'.setTop (mkF m (pc + 2) _ (.ref T.heap.size :: _))) target
          rw [← e3]; exact ht
      · cases h
  · cases h
theorem grow_same {f : MOp} (hh : ∀ c L S H r, f c L S H = some r → hOf r = H) : Grow CT f := fun call L S H r hc h => by rw [hh _ _ _ _ _ h]; exact Up.refl _
theorem arr_at (R : Rep Z X CT h H) {q : Nat × List Value} (hi : H[i]? = some q) {t : FieldType} {n1 : Nat} {fs : List (String × String × String × FieldType)} (hk : CT[q.1]? = some (.array t, n1, fs)) : ∃ c, Arr Z h (ph Z X i) c t ∧ c.slots = (q.2.map (ab Z X)).toArray ∧ (n1 = 1 → Exa Z h (ph Z X i) ("[" ++ t.toString)) ∧ (n1 = 1 → ∀ C, t = .object C → Ovr Z c.cls C) := by
  have := R.at hi
  simpa only [CellOk, hk] using this
/-- reading an array: what the model's own law for the instruction says is handed in -/
theorem s_ald {t : FieldType} {n1 : Nat} {fs : List (String × String × String × FieldType)} (hk : CT[k]? = some (.array t, n1, fs))
    (law : ∀ (p : Program) (l : Launch) (e : Env) (R : Room) (s : State) (m : MethodId) (args : Array Value) (below : List Frame) (meth : Method) (c : Code) (T : State) (locs : List Loc) (cells slots : Nat), Stand p l e R s m args below meth c T locs cells slots → p.tables.exec = Jvm.exec → c.code = M.2.1 → ∀ (a : Addr) (cell : Cell) (j : Int32) (v : Value), T.heap[a]? = some cell → s.isArrayOf cell t → cell.vm ≠ .unknown → ¬ (j < 0 ∨ cell.slots.size ≤ j.toNatClampNeg) → cell.slots[j.toNatClampNeg]? = some v →
      ∀ (Ls : Array Slot) (rest : List Value) (target : State), Steps p.tables e below (T.setTop (mkF m (pc + 1) Ls (v :: rest))) target → Steps p.tables e below (T.setTop (mkF m pc Ls (.int j :: .ref a :: rest))) target) : Sound Z X CT l MT M pc (oALd k (pc + 1)) := by
  refine ⟨fun _ _ _ _ _ _ _ h => h, grow_same fun c L S H r h => ?_, ?_⟩
  · simp only [oALd] at h
    repeat' (split at h)
    all_goals first | (cases h; done) | (cases h; rfl)
  · intro p e R s m args below meth c hx hZ hown hby hnm hret hlk hf hl call hcall H0 Hf hRc hRs T L S H hs r h
    simp only [oALd] at h
    split at h
    · rename_i j a S'
      split at h
      · rename_i k' vs hH
        split at h
        · rename_i hb1
          cases Nat.eq_of_beq_eq_true hb1
          split at h
          · cases h
          · rename_i hj
            split at h
            · rename_i v hv
              cases h
              intro b1 b2
              obtain ⟨locs, Y, hrep, hfr, hlen, h1, h2, h3⟩ := hs
              obtain ⟨cell, A, hsl, -⟩ := arr_at hrep hH hk
              have hlt : j.toNatClampNeg < vs.length := (List.getElem?_eq_some_iff.mp hv).1
              refine ⟨T, ⟨locs, Y, hrep, hfr, hlen, h1, h2, h3⟩, fun target ht => ?_⟩
              exact law _ _ _ _ _ _ _ _ _ _ _ _ _ _ Y hx hby _ _ _ _ A.1 (State.isArrayOf_alike hZ.alike A.2.1) A.2.2 (by rw [hsl]; simp; exact ⟨by simpa [Int32.not_lt] using hj, hlt⟩) (by rw [hsl]; simp [hv]) _ _ target ht
            · cases h
        · cases h
      · cases h
    · cases h
theorem s_iaload {n1 : Nat} {fs : List (String × String × String × FieldType)} (hd : decode M.2.1 pc = .ok (.iaload, 1)) (hk : CT[k]? = some (.array .int, n1, fs)) : Sound Z X CT l MT M pc (oALd k (pc + 1)) :=
  s_ald hk fun _ _ _ _ _ _ _ _ _ _ _ _ _ _ Y hx hby _ _ _ _ h1 h2 h3 h4 h5 _ _ target ht => Y.iaload hx h1 h2 h3 h4 h5 (g := mkF _ pc _ _) rfl rfl (hb hby hd) target ht
theorem s_laload {n1 : Nat} {fs : List (String × String × String × FieldType)} (hd : decode M.2.1 pc = .ok (.laload, 1)) (hk : CT[k]? = some (.array .long, n1, fs)) : Sound Z X CT l MT M pc (oALd k (pc + 1)) :=
  s_ald hk fun _ _ _ _ _ _ _ _ _ _ _ _ _ _ Y hx hby _ _ _ _ h1 h2 h3 h4 h5 _ _ target ht => Y.laload hx h1 h2 h3 h4 h5 (g := mkF _ pc _ _) rfl rfl (hb hby hd) target ht
theorem s_baload {n1 : Nat} {fs : List (String × String × String × FieldType)} (hd : decode M.2.1 pc = .ok (.baload, 1)) (hk : CT[k]? = some (.array .byte, n1, fs)) : Sound Z X CT l MT M pc (oALd k (pc + 1)) :=
  s_ald hk fun _ _ _ _ _ _ _ _ _ _ _ _ _ _ Y hx hby _ _ _ _ h1 h2 h3 h4 h5 _ _ target ht => Y.baloadBytes hx h1 h2 h3 h4 h5 (g := mkF _ pc _ _) rfl rfl (hb hby hd) target ht
theorem s_zaload {n1 : Nat} {fs : List (String × String × String × FieldType)} (hd : decode M.2.1 pc = .ok (.baload, 1)) (hk : CT[k]? = some (.array .boolean, n1, fs)) : Sound Z X CT l MT M pc (oALd k (pc + 1)) :=
  s_ald hk fun _ _ _ _ _ _ _ _ _ _ _ _ _ _ Y hx hby _ _ _ _ h1 h2 h3 h4 h5 _ _ target ht => Y.baloadBooleans hx h1 h2 h3 h4 h5 (g := mkF _ pc _ _) rfl rfl (hb hby hd) target ht
theorem s_caload {n1 : Nat} {fs : List (String × String × String × FieldType)} (hd : decode M.2.1 pc = .ok (.caload, 1)) (hk : CT[k]? = some (.array .char, n1, fs)) : Sound Z X CT l MT M pc (oALd k (pc + 1)) :=
  s_ald hk fun _ _ _ _ _ _ _ _ _ _ _ _ _ _ Y hx hby _ _ _ _ h1 h2 h3 h4 h5 _ _ target ht => Y.caload hx h1 h2 h3 h4 h5 (g := mkF _ pc _ _) rfl rfl (hb hby hd) target ht
theorem s_aaload {t : FieldType} {n1 : Nat} {fs : List (String × String × String × FieldType)} (hd : decode M.2.1 pc = .ok (.aaload, 1)) (ht : t.isReference = true) (hk : CT[k]? = some (.array t, n1, fs)) : Sound Z X CT l MT M pc (oALd k (pc + 1)) :=
  s_ald hk fun _ _ _ _ _ _ _ _ _ _ _ _ _ _ Y hx hby _ _ _ _ h1 h2 h3 h4 h5 _ _ target ht' => Y.aaload hx h1 h2 ht h3 h4 h5 (g := mkF _ pc _ _) rfl rfl (hb hby hd) target ht'
theorem s_alen {t : FieldType} {n1 : Nat} {fs : List (String × String × String × FieldType)} (hd : decode M.2.1 pc = .ok (.arraylength, 1)) (hk : CT[k]? = some (.array t, n1, fs)) : Sound Z X CT l MT M pc (oALen k (pc + 1)) := by
  refine ⟨fun _ _ _ _ _ _ _ h => h, grow_same fun c L S H r h => ?_, ?_⟩
  · simp only [oALen] at h
    repeat' (split at h)
    all_goals first | (cases h; done) | (cases h; rfl)
  · intro p e R s m args below meth c hx hZ hown hby hnm hret hlk hf hl call hcall H0 Hf hRc hRs T L S H hs r h
    simp only [oALen] at h
    split at h
    · rename_i a S'
      split at h
      · rename_i k' vs hH
        split at h
        · rename_i hb1
          cases Nat.eq_of_beq_eq_true hb1
          cases h
          intro b1 b2
          obtain ⟨locs, Y, hrep, hfr, hlen, h1, h2, h3⟩ := hs
          obtain ⟨cell, A, hsl, -⟩ := arr_at hrep hH hk
          refine ⟨T, ⟨locs, Y, hrep, hfr, hlen, h1, h2, h3⟩, fun target ht => ?_⟩
          refine Y.arraylength hx A.1 (State.isArrayOf_alike hZ.alike A.2.1) (g := fra Z X m pc L (.ref a :: S')) rfl rfl (hb hby hd) target ?_
          rw [hsl]; simp only [List.size_toArray, List.length_map]; exact ht
        · cases h
      · cases h
    · cases h
/-- writing an int-like array -/
theorem s_ast (hX : ∀ a ∈ X, a < Z.heap.size) {t : FieldType} {n1 : Nat} {fs : List (String × String × String × FieldType)} (hk : CT[k]? = some (.array t, n1, fs))
    (law : ∀ (p : Program) (l : Launch) (e : Env) (R : Room) (s : State) (m : MethodId) (args : Array Value) (below : List Frame) (meth : Method) (c : Code) (T : State) (locs : List Loc) (cells slots : Nat), Stand p l e R s m args below meth c T locs cells slots → p.tables.exec = Jvm.exec → Z.Warmed39 s.vm → c.code = M.2.1 → ∀ (h : Heap), T.heap = h → ∀ (a : Addr) (cl : Cell), Arr Z h a cl t → ∀ (j x : Int32), ¬ (j < 0 ∨ cl.slots.size ≤ j.toNatClampNeg) → ∀ (Ls : Array Slot) (rest : List Value),
      ∃ T' h', Stand p l e R s m args below meth c T' (locs ++ [⟨a, j.toNatClampNeg⟩]) cells slots ∧ T'.heap = h' ∧ Wr h h' a j.toNatClampNeg (.int (nar t x)) ∧ ∀ target, Steps p.tables e below (T'.setTop (mkF m (pc + 1) Ls rest)) target → Steps p.tables e below (T.setTop (mkF m pc Ls (.int x :: .int j :: .ref a :: rest))) target) : Sound Z X CT l MT M pc (oASt X.length k t (pc + 1)) := by
  have sset : ∀ {H : MH} {a : Nat} {vs : List Value} (j : Nat) (v : Value), H[a]? = some (k, vs) → sz CT (H.set a (k, vs.set j v)) = sz CT H := fun j v hH => sz_set hH (by simp [szc, hk])
  refine ⟨fun _ _ _ _ _ _ _ h => h, fun call L S H r hc h => ?_, ?_⟩
  · simp only [oASt] at h
    split at h
    · split at h
      · rename_i k' vs hH
        split at h
        · rename_i hb1
          have e1 := Nat.eq_of_beq_eq_true (Bool.and_eq_true_iff.mp hb1).1
          subst e1
          split at h
          · cases h
          · split at h
            · cases h; exact ⟨by simp [hOf], by simp only [hOf]; rw [sset _ _ hH]; exact Nat.le_refl _⟩
            · cases h
        · cases h
      · cases h
    · cases h
  · intro p e R s m args below meth c hx hZ hown hby hnm hret hlk hf hl call hcall H0 Hf hRc hRs T L S H hs r h
    simp only [oASt] at h
    split at h
    · rename_i x j a S'
      split at h
      · rename_i k' vs hH
        split at h
        · rename_i hb1
          obtain ⟨hb1, hb2⟩ := Bool.and_eq_true_iff.mp hb1
          have e1 := Nat.eq_of_beq_eq_true hb1
          subst e1
          have hxa : X.length ≤ a := Nat.le_of_ble_eq_true hb2
          split at h
          · cases h
          · rename_i hj
            split at h
            · rename_i hb3
              have hlt : j.toNatClampNeg < vs.length := Nat.lt_of_not_le fun q => by rw [Nat.ble_eq_true_of_le q] at hb3; cases hb3
              cases h
              intro b1 b2
              obtain ⟨locs, Y, hrep, hfr, hlen, h1, h2, h3⟩ := hs
              obtain ⟨cell, A, hsl, q1, q2⟩ := arr_at hrep hH hk
              have hin : ¬ (j < 0 ∨ cell.slots.size ≤ j.toNatClampNeg) := by rw [hsl]; simp; exact ⟨by simpa [Int32.not_lt] using hj, hlt⟩
              obtain ⟨T', h', Y', e', W, st⟩ := law _ _ _ _ _ _ _ _ _ _ _ _ _ _ Y hx hZ hby _ rfl _ _ A _ x hin (L.map (abS Z X)).toArray (S'.map (ab Z X))
              refine ⟨T', ⟨_, ?_, ?_, Fr.snoc Y' hfr ?_, hlen, by simpa using h1, by rw [sset _ _ hH]; exact h2, h3⟩, st⟩
              · rw [sset _ _ hH, List.length_set]; exact Y'
              · rw [e']
                refine hrep.upd hX hxa W ?_
                simp only [CellOk, hk]
                refine ⟨_, A.same W, ?_, fun w => (q1 w).wr W, q2⟩
                simp only [Cell.setSlot, hsl]
                simp [List.map_set, ab]
              · have := ph_fresh (Z := Z) hxa; omega
            · cases h
        · cases h
      · cases h
    · cases h
theorem s_iastore (hX : ∀ a ∈ X, a < Z.heap.size) {n1 : Nat} {fs : List (String × String × String × FieldType)} (hd : decode M.2.1 pc = .ok (.iastore, 1)) (hk : CT[k]? = some (.array .int, n1, fs)) : Sound Z X CT l MT M pc (oASt X.length k .int (pc + 1)) :=
  s_ast hX hk fun _ _ _ _ _ _ _ _ _ _ _ _ _ _ Y hx hZ hby _ eT _ _ A _ _ hj _ _ => stI Y hx hZ eT A hj (g := mkF _ pc _ _) rfl rfl (hb hby hd)
theorem s_bastore (hX : ∀ a ∈ X, a < Z.heap.size) {n1 : Nat} {fs : List (String × String × String × FieldType)} (hd : decode M.2.1 pc = .ok (.bastore, 1)) (hk : CT[k]? = some (.array .byte, n1, fs)) : Sound Z X CT l MT M pc (oASt X.length k .byte (pc + 1)) :=
  s_ast hX hk fun _ _ _ _ _ _ _ _ _ _ _ _ _ _ Y hx hZ hby _ eT _ _ A _ _ hj _ _ => stB Y hx hZ eT A hj (g := mkF _ pc _ _) rfl rfl (hb hby hd)
theorem s_zastore (hX : ∀ a ∈ X, a < Z.heap.size) {n1 : Nat} {fs : List (String × String × String × FieldType)} (hd : decode M.2.1 pc = .ok (.bastore, 1)) (hk : CT[k]? = some (.array .boolean, n1, fs)) : Sound Z X CT l MT M pc (oASt X.length k .boolean (pc + 1)) :=
  s_ast hX hk fun _ _ _ _ _ _ _ _ _ _ _ _ _ _ Y hx hZ hby _ eT _ _ A _ _ hj _ _ => stZ Y hx hZ eT A hj (g := mkF _ pc _ _) rfl rfl (hb hby hd)
theorem s_castore (hX : ∀ a ∈ X, a < Z.heap.size) {n1 : Nat} {fs : List (String × String × String × FieldType)} (hd : decode M.2.1 pc = .ok (.castore, 1)) (hk : CT[k]? = some (.array .char, n1, fs)) : Sound Z X CT l MT M pc (oASt X.length k .char (pc + 1)) :=
  s_ast hX hk fun _ _ _ _ _ _ _ _ _ _ _ _ _ _ Y hx hZ hby _ eT _ _ A _ _ hj _ _ => stC Y hx hZ eT A hj (g := mkF _ pc _ _) rfl rfl (hb hby hd)
end Heap
end Jvm.MV
namespace Jvm.MV
open Jvm Jvm.ClassFile Sem Op Lib Jvm.Free Jvm.Stand Jvm.LawKit Jvm.RoadKit Bundle
section Objs
variable {Z : State} {X : List Addr} {CT : Tab} {l : Launch} {MT : List MI} {M : MI} {pc : Nat} {a0 : Array Value} {h h' : Heap} {H : MH} {i k : Nat} {vs : List Value}
/-- the sheet lays these fields into the class C -/
def LayIn (Z : State) (a0 : Array Value) (C : String) (fs : List (String × String × String × FieldType)) : Prop := allP (fun f => Laid Z a0 C f.1 f.2.1 f.2.2.1 ∧ parseFieldDescriptor f.2.2.1 = some f.2.2.2) fs
theorem grow_new (k : Nat) (ds : List Value) (n : Nat) : Grow CT (oNew k ds n) := fun call L S H r hc h => by
  cases h; exact ⟨by simp [hOf], by simp only [hOf, sz_app]; omega⟩
theorem s_new {C : String} {idx n1 : Nat} {fs : List (String × String × String × FieldType)} (hd : decode M.2.1 pc = .ok (.new idx, 3)) (w : (Jvm.Cond.classLink M.1.cls idx C).before a0 Z = true) (wi : (Jvm.Cond.instantiable C n1).before a0 Z = true) (wz : (Jvm.Cond.initialized C).before a0 Z = true) (hk : CT[k]? = some (.object C, n1, fs)) (hL : LayIn Z a0 C fs) {ds : List Value} (hds : fs.map (fun f => defaultValue f.2.2.2) = ds) : Sound Z X CT l MT M pc (oNew k ds (pc + 3)) := by
  subst hds
  refine ⟨fun _ _ _ _ _ _ _ h => h, grow_new _ _ _, ?_⟩
  intro p e R s m args below meth c hx hZ hown hby hnm hret hlk hf hl call hcall H0 Hf hRc hRs T L S H hs r h
  cases h
  intro b1 b2
  obtain ⟨locs, Y, hrep, hfr, hlen, h1, h2, h3⟩ := hs
  have es : szc CT (k, fs.map (fun f => defaultValue f.2.2.2)) = n1 := by simp [szc, hk]
  rw [sz_app, es] at b2
  simp at b1
  obtain ⟨T', h', Y', e', E, A, D, -, st⟩ := newO Y hx hZ hown w wi wz rfl (g := fra Z X m pc L S) rfl (hb hby hd) (by omega) (by omega)
  have hsz : h'.size = T.heap.size + 1 := by
    have q1 : T.heap.size < h'.size := A.lt
    have q2 : T'.heap.size ≤ _ := Y'.heapSize
    have q3 := hrep.2.1
    obtain ⟨u1, u2⟩ := h3
    have q4 := hrep.1
    rw [e'] at q2
    omega
  refine ⟨T', ⟨locs, ?_, ?_, hfr, hlen, by simp; omega, by rw [sz_app]; omega, h3⟩, fun target ht => st _ ?_⟩
  · have e1 : (H ++ [(k, fs.map (fun f => defaultValue f.2.2.2))]).length - H0.length = H.length - H0.length + 1 := by simp; omega
    have e2 : sz CT (H ++ [(k, fs.map (fun f => defaultValue f.2.2.2))]) - sz CT H0 = sz CT H - sz CT H0 + n1 := by rw [sz_app, es]; omega
    rw [e1, e2]; exact Y'
  · rw [e']
    refine hrep.push E hsz ?_
    simp only [CellOk, hk]
    refine ⟨A, by simp, fun j O nm d ty v h1 h2 => ?_⟩
    simp only [List.getElem?_map, h1, Option.map_some, Option.some.injEq] at h2
    subst h2
    have q := allP_mem hL _ (List.mem_of_getElem? h1)
    rw [ab_default]
    exact D q.1 q.2
  · have e3 : ab Z X (.ref H.length) = .ref T.heap.size := by simp only [ab, ph_fresh hrep.1, hrep.2.1]
    show Steps p.tables e below (T'.setTop (mkF m (pc + 3) _ (.ref T.heap.size :: _))) target
    rw [← e3]; exact ht
theorem obj_at (R : Rep Z X CT h H) {q : Nat × List Value} (hi : H[i]? = some q) {C : String} {n1 : Nat} {fs : List (String × String × String × FieldType)} (hk : CT[q.1]? = some (.object C, n1, fs)) : Exa Z h (ph Z X i) C ∧ q.2.length = fs.length ∧ ∀ (j : Nat) (O nm d : String) (ty : FieldType) (v : Value), fs[j]? = some (O, nm, d, ty) → q.2[j]? = some v → Fld Z h (ph Z X i) O nm d (ab Z X v) := by
  have := R.at hi
  simpa only [CellOk, hk] using this
theorem s_getF {C R0 O nm d host : String} {ty : FieldType} {idx n1 pos : Nat} {fs : List (String × String × String × FieldType)} (hd : decode M.2.1 pc = .ok (.getfield idx, 3)) (w : (Jvm.Cond.fieldLink M.1.cls idx R0 nm d).before a0 Z = true ∨ (Jvm.Cond.fieldLinkNest M.1.cls idx R0 nm d host).before a0 Z = true) (via : Via Z R0 O nm d) (hk : CT[k]? = some (.object C, n1, fs)) (hp : fs[pos]? = some (O, nm, d, ty)) : Sound Z X CT l MT M pc (oGetF k pos (pc + 3)) := by
  refine ⟨fun _ _ _ _ _ _ _ h => h, grow_same fun c L S H r h => ?_, ?_⟩
  · simp only [oGetF] at h
    repeat' (split at h)
    all_goals first | (cases h; done) | (cases h; rfl)
  · intro p e R s m args below meth c hx hZ hown hby hnm hret hlk hf hl call hcall H0 Hf hRc hRs T L S H hs r h
    simp only [oGetF] at h
    split at h
    · rename_i a S'
      split at h
      · rename_i k' vs hH
        split at h
        · rename_i hb1
          have e1 := Nat.eq_of_beq_eq_true hb1
          subst e1
          split at h
          · rename_i v hv
            cases h
            intro b1 b2
            obtain ⟨locs, Y, hrep, hfr, hlen, h1, h2, h3⟩ := hs
            have F := (obj_at hrep hH hk).2.2 _ _ _ _ _ _ hp hv
            obtain ⟨T', Y', e', st⟩ := getF Y hx hZ hown w via rfl F (g := fra Z X m pc L (.ref a :: S')) rfl rfl (hb hby hd)
            exact ⟨T', ⟨locs, Y', by rw [e']; exact hrep, hfr, hlen, h1, h2, h3⟩, st⟩
          · cases h
        · cases h
      · cases h
    · cases h
theorem cv_spec {ty : FieldType} {v v' : Value} (h : cv ty v = some v') : narrow ty (ab Z X v) = ab Z X v' ∧ fits ty (ab Z X v') = true := by
  cases ty <;> cases v <;> simp only [cv, reduceCtorEq, Option.some.injEq] at h <;> subst h <;> first | exact ⟨rfl, rfl⟩ | exact ⟨rfl, fits_nar_bool _⟩ | exact ⟨rfl, fits_nar_byte _⟩
theorem s_putF (hX : ∀ a ∈ X, a < Z.heap.size) {C R0 O nm d : String} {ty : FieldType} {idx n1 pos : Nat} {fs : List (String × String × String × FieldType)} (hd : decode M.2.1 pc = .ok (.putfield idx, 3)) (w : (Jvm.Cond.fieldLink M.1.cls idx R0 nm d).before a0 Z = true) (via : Via Z R0 O nm d) (hk : CT[k]? = some (.object C, n1, fs)) (hp : fs[pos]? = some (O, nm, d, ty))
    (hL : LayIn Z a0 C fs) (hnd : (fs.map (fun f => f.2.1)).Nodup) (wi : (Jvm.Cond.instantiable C n1).before a0 Z = true) (wl : (Jvm.Cond.lays C O nm d).before a0 Z = true ∨ ((Jvm.Cond.laysFinal C O nm d).before a0 Z = true ∧ M.1.cls = O ∧ M.1.name = "<init>")) : Sound Z X CT l MT M pc (oPutF X.length k pos ty (pc + 3)) := by
  have sset : ∀ {H : MH} {a : Nat} {vs : List Value} (j : Nat) (v : Value), H[a]? = some (k, vs) → sz CT (H.set a (k, vs.set j v)) = sz CT H := fun j v hH => sz_set hH (by simp [szc, hk])
  refine ⟨fun _ _ _ _ _ _ _ h => h, fun call L S H r hc h => ?_, ?_⟩
  · simp only [oPutF] at h
    split at h
    · split at h
      · rename_i k' vs hH
        split at h
        · rename_i hb1
          have e1 := Nat.eq_of_beq_eq_true (Bool.and_eq_true_iff.mp hb1).1
          subst e1
          split at h
          · cases h; exact ⟨by simp [hOf], by simp only [hOf]; rw [sset _ _ hH]; exact Nat.le_refl _⟩
          · cases h
        · cases h
      · cases h
    · cases h
  · intro p e R s m args below meth c hx hZ hown hby hnm hret hlk hf hl call hcall H0 Hf hRc hRs T L S H hs r h
    simp only [oPutF] at h
    split at h
    · rename_i v a S'
      split at h
      · rename_i k' vs hH
        split at h
        · rename_i hb1
          obtain ⟨hb1, hb2⟩ := Bool.and_eq_true_iff.mp hb1
          have e1 := Nat.eq_of_beq_eq_true hb1
          subst e1
          have hxa : X.length ≤ a := Nat.le_of_ble_eq_true hb2
          split at h
          · rename_i v' hv
            cases h
            intro b1 b2
            obtain ⟨locs, Y, hrep, hfr, hlen, h1, h2, h3⟩ := hs
            obtain ⟨A, hvl, hF⟩ := obj_at hrep hH hk
            have hpl : pos < vs.length := by rw [hvl]; exact (List.getElem?_eq_some_iff.mp hp).1
            have F := hF _ _ _ _ _ _ hp (List.getElem?_eq_getElem hpl)
            have q := cv_spec (Z := Z) (X := X) hv
            have ql := allP_mem hL _ (List.mem_of_getElem? hp)
            obtain ⟨T', h', Y', e', W, st⟩ := putFN Y hx hZ hown w via rfl F A (wl.imp id fun u => ⟨u.1, u.2.1, by rw [hnm]; exact u.2.2⟩) wi ql.2 q.1 q.2 (g := fra Z X m pc L (v :: .ref a :: S')) rfl rfl (hb hby hd)
            refine ⟨T', ⟨_, ?_, ?_, Fr.snoc Y' hfr ?_, hlen, by simpa using h1, by rw [sset _ _ hH]; exact h2, h3⟩, st⟩
            · rw [sset _ _ hH, List.length_set]; exact Y'
            · rw [e']
              refine hrep.upd hX hxa W ?_
              simp only [CellOk, hk]
              refine ⟨A.wr W, by simpa using hvl, fun j O' nm' d' ty' u hj hu => ?_⟩
              by_cases e : j = pos
              · subst e
                cases hp.symm.trans hj
                rw [List.getElem?_set_self hpl] at hu
                cases hu
                exact F.same W
              · rw [List.getElem?_set_ne (Ne.symm e)] at hu
                have qj := allP_mem hL _ (List.mem_of_getElem? hj)
                refine (hF _ _ _ _ _ _ hj hu).other W (Or.inr (slot_ne qj.1 ql.1 ?_ qj.2 ql.2))
                intro en
                obtain ⟨l1, g1⟩ := List.getElem?_eq_some_iff.mp hj
                obtain ⟨l2, g2⟩ := List.getElem?_eq_some_iff.mp hp
                have := (List.getElem_inj (i := j) (j := pos) (h₀ := by simpa using l1) (h₁ := by simpa using l2) hnd).mp (by simp only [List.getElem_map, g1, g2]; exact en)
                exact e this
            · have := ph_fresh (Z := Z) hxa; omega
          · cases h
        · cases h
      · cases h
    · cases h
theorem s_init0 {idx W : Nat} (hd : decode M.2.1 pc = .ok (.invokespecial idx, 3)) (w1 : (Jvm.Cond.methodLink M.1.cls idx Lib.objectInit).before a0 Z = true) (w2 : (Jvm.Cond.instanceMethod Lib.objectInit).before a0 Z = true) (w3 : (Jvm.Cond.code Lib.objectInit ⟨#[0xb1]⟩ 1 none).before a0 Z = true) (hf0 : 1 ≤ M.2.2.2.2.1) (hl0 : W + 12 ≤ M.2.2.2.2.2) : Sound Z X CT l MT M pc (oInit0 W (pc + 3)) := by
  refine ⟨fun _ _ _ _ _ _ _ h => h, grow_same fun c L S H r h => ?_, ?_⟩
  · simp only [oInit0] at h
    repeat' (split at h)
    all_goals first | (cases h; done) | (cases h; rfl)
  · intro p e R s m args below meth c hx hZ hown hby hnm hret hlk hf hl call hcall H0 Hf hRc hRs T L S H hs r h
    simp only [oInit0] at h
    split at h
    · rename_i a S'
      split at h
      · rename_i hW
        cases h
        intro b1 b2
        obtain ⟨locs, Y, hrep, hfr, hlen, h1, h2, h3⟩ := hs
        obtain ⟨T', Y', e', st⟩ := initO Y hx hZ hown w1 w2 w3 rfl (g := fra Z X m pc L (.ref a :: S')) rfl (by show (List.toArray _).size = _; simp [hlen]) rfl (hb hby hd) (Nat.le_trans hf0 hf) (W := W) (by rw [wt_map]; simpa using hW) (Nat.le_trans hl0 hl)
        exact ⟨T', ⟨locs, Y', by rw [e']; exact hrep, hfr, hlen, h1, h2, h3⟩, st⟩
      · cases h
    · cases h
theorem mono_callR (k μ na W n : Nat) : Mono (oCallR k μ na W n) := fun c c' L S H r hl h => by
  simp only [oCallR] at h ⊢
  split at h
  · rename_i hg
    rw [if_pos hg]
    split at h
    · rename_i a ha
      split at h
      · rename_i k' vs hH
        split at h
        · rename_i hb
          split at h
          · rename_i v H' hq
            simp only [hb, hl _ _ _ _ hq]; exact h
          · cases h
        · cases h
      · cases h
    · cases h
  · cases h
theorem grow_callR (k μ na W n : Nat) : Grow CT (oCallR k μ na W n) := fun call L S H r hc h => by
  simp only [oCallR] at h
  split at h
  · split at h
    · split at h
      · split at h
        · split at h
          · rename_i hq
            cases h; exact hc _ _ _ _ _ hq
          · cases h
        · cases h
      · cases h
    · cases h
  · cases h
theorem s_callR {μ na W len : Nat} {Mc : MI} (hMc : MT[μ]? = some Mc) (w3 : (Jvm.Cond.initialized Mc.1.cls).before a0 Z = true) (w4 : (Jvm.Cond.code Mc.1 Mc.2.1 Mc.2.2.1 Mc.2.2.2.1).before a0 Z = true) (hf0 : Mc.2.2.2.2.1 + 1 ≤ M.2.2.2.2.1) (hl0 : W + (Mc.2.2.1 + 11) + Mc.2.2.2.2.2 ≤ M.2.2.2.2.2)
    (law : ∀ (p : Program) (e : Env) (R : Room) (s : State) (m : MethodId) (args : Array Value) (below : List Frame) (meth : Method) (c : Code) (T : State) (locs : List Loc) (cells slots : Nat), Stand p l e R s m args below meth c T locs cells slots → p.tables.exec = Jvm.exec → Z.Warmed39 s.vm → s.vm.findClass M.1.cls = some m.cls → c.code = M.2.1 →
      ∀ (Pre : Pt → Array Value → Prop) (Post : Pt → Array Value → Option Value → Pt → Prop), Back l R p e below s args Mc.1 len W Pre Post → ∀ (a : Addr) (vs : List Value), CellOk Z X CT T.heap a k vs → ∀ (Ls : Array Slot) (argsL rest : List Value), Ls.size = c.maxLocals → argsL.length = na → 2 * 0 + (rest.map fun v => v.category).sum ≤ W →
      (∀ vm₁, s.WarmedH vm₁ → Pre ⟨T.setVm vm₁, locs, cells, slots⟩ (.ref a :: argsL).toArray) →
      ∃ (v : Option Value) (vm₁ : Vm) (B : Pt), s.WarmedH vm₁ ∧ Stand p l e R s m args below meth c B.U B.locs B.cells B.slots ∧ Post ⟨T.setVm vm₁, locs, cells, slots⟩ (.ref a :: argsL).toArray v B ∧ Steps p.tables e below (T.setTop (mkF m pc Ls (argsL.reverse ++ .ref a :: rest))) (B.U.setTop (mkF m (pc + len) Ls (v.toList ++ rest)))) :
    Sound Z X CT l MT M pc (oCallR k μ na W (pc + len)) := by
  refine ⟨mono_callR _ _ _ _ _, grow_callR _ _ _ _ _, ?_⟩
  intro p e R s m args below meth c hx hZ hown hby hnm hret hlk hf hl call hcall H0 Hf hRc hRs T L S H hs r h
  simp only [oCallR] at h
  split at h
  · rename_i hg
    obtain ⟨hg1, hg2⟩ := hg
    split at h
    · rename_i a ha
      split at h
      · rename_i k' vs hH
        split at h
        · rename_i hb1
          have e1 := Nat.eq_of_beq_eq_true hb1
          subst e1
          split at h
          · rename_i v H' hq
            cases h
            obtain ⟨⟨u1, u2⟩, M', hM', con⟩ := hcall _ _ _ _ _ hq
            cases hMc.symm.trans hM'
            intro b1 b2
            obtain ⟨locs, Y, hrep, hfr, hlen, h1, h2, h3⟩ := hs
            have B := backOf (W := W) (args := args) (below := below) (p := p) (e := e) (R := R) (len := len) (Q := fun w hh L => w = v.map (ab Z X) ∧ Fr Z.heap.size L ∧ Rep Z X CT hh H') (con T.heap hrep) hZ w4 w3 (Nat.le_trans hf0 hf) (Nat.le_trans hl0 hl)
            have hst : S.map (ab Z X) = (((S.take na).reverse).map (ab Z X)).reverse ++ .ref (ph Z X a) :: (S.drop (na + 1)).map (ab Z X) := by
              have e2 : S = S.take na ++ .ref a :: S.drop (na + 1) := by
                have e3 : S.drop na = .ref a :: S.drop (na + 1) := by
                  have hlt : na < S.length := by omega
                  rw [List.drop_eq_getElem_cons hlt]
                  congr 1
                  rw [List.getElem?_eq_getElem hlt] at ha
                  exact Option.some.inj ha
                rw [← e3, List.take_append_drop]
              conv => lhs; rw [e2]
              rw [List.map_append, List.map_cons, ← List.map_reverse, List.reverse_reverse]; rfl
            obtain ⟨v', vm₁, ⟨T', L', k'', n''⟩, -, Y', ⟨Lc, ⟨hv, hfrL, hrep'⟩, l', y', z'⟩, st⟩ := law _ _ _ _ _ _ _ _ _ _ _ _ _ Y hx hZ hown hby _ _ B _ _ (hrep.at hH) (L.map (abS Z X)).toArray (((S.take na).reverse).map (ab Z X)) ((S.drop (na + 1)).map (ab Z X)) (by simp [hlen]) (by simp; omega) (by rw [wt_map]; simpa using hg2) (fun _ _ => ⟨rfl, rfl, by show (H.length - H0.length) + (H'.length - H.length) ≤ R.cells; omega, by show (sz CT H - sz CT H0) + (sz CT H' - sz CT H) ≤ R.slots; omega⟩)
            dsimp only [Pt.U, Pt.locs, Pt.cells, Pt.slots] at Y' l' y' z' st hrep'
            subst l' y' z' hv
            refine ⟨T', ⟨locs ++ Lc, ?_, hrep', Fr.app hfr hfrL, hlen, by omega, by omega, h3⟩, ?_⟩
            · have e1 : (H.length - H0.length) + (H'.length - H.length) = H'.length - H0.length := by omega
              have e2 : (sz CT H - sz CT H0) + (sz CT H' - sz CT H) = sz CT H' - sz CT H0 := by omega
              rw [← e1, ← e2]; exact Y'
            · intro target ht
              have e3 : (v.toList ++ S.drop (na + 1)).map (ab Z X) = (v.map (ab Z X)).toList ++ (S.drop (na + 1)).map (ab Z X) := by cases v <;> simp
              show Steps p.tables e below (T.setTop (mkF m pc _ (S.map (ab Z X)))) target
              rw [hst]
              refine st.trans ?_
              rw [← e3]; exact ht
          · cases h
        · cases h
      · cases h
    · cases h
  · cases h
theorem s_special {μ na W idx : Nat} {Mc : MI} {ps : List FieldType} {rt : Option FieldType} (hd : decode M.2.1 pc = .ok (.invokespecial idx, 3)) (hMc : MT[μ]? = some Mc) (hn : Mc.1.name = "<init>") (hr : Mc.2.2.2.1 = none) (w1 : (Jvm.Cond.methodLink M.1.cls idx Mc.1).before a0 Z = true) (w2 : (Jvm.Cond.instanceMethod Mc.1).before a0 Z = true) (w3 : (Jvm.Cond.initialized Mc.1.cls).before a0 Z = true) (w4 : (Jvm.Cond.code Mc.1 Mc.2.1 Mc.2.2.1 Mc.2.2.2.1).before a0 Z = true)
    (hpd : parseMethodDescriptor Mc.1.desc = some ⟨ps, rt⟩) (hna : ps.length = na) (hy : Mc.1.cls ≠ "java/lang/invoke/MethodHandle" ∧ Mc.1.cls ≠ "java/lang/invoke/VarHandle") (hf0 : Mc.2.2.2.2.1 + 1 ≤ M.2.2.2.2.1) (hl0 : W + (Mc.2.2.1 + 11) + Mc.2.2.2.2.2 ≤ M.2.2.2.2.2) : Sound Z X CT l MT M pc (oCallR k μ na W (pc + 3)) :=
  s_callR hMc w3 w4 hf0 hl0 fun _ _ _ _ _ _ _ _ _ _ _ _ _ Y hx hZ hown hby _ _ B _ _ _ _ _ _ hs hlen hW hpre =>
    Y.specialBack hx hn hown (mvT hZ w1) (mvT hZ w2) (mvT hZ (hr ▸ w4)) hy B (g := mkF _ pc _ _) rfl hs (Steps.refl _) (lenOf hpd (hlen.trans hna.symm)) rfl hW (hb hby hd) hpre
theorem s_virtual {C : String} {y : MethodName} {μ na W idx n1 : Nat} {Mc : MI} {fs : List (String × String × String × FieldType)} {ps : List FieldType} {rt : Option FieldType} (hd : decode M.2.1 pc = .ok (.invokevirtual idx, 3)) (hMc : MT[μ]? = some Mc) (hk : CT[k]? = some (.object C, n1, fs)) (w1 : (Jvm.Cond.methodLink M.1.cls idx y).before a0 Z = true) (w2 : (Jvm.Cond.declares y).before a0 Z = true) (w5 : (Jvm.Cond.selects C y Mc.1).before a0 Z = true) (hnf : ∀ s : State, Z.Warmed39 s.vm → NotFace s y) (w6 : (Jvm.Cond.instanceMethod Mc.1).before a0 Z = true) (w3 : (Jvm.Cond.initialized Mc.1.cls).before a0 Z = true) (w4 : (Jvm.Cond.code Mc.1 Mc.2.1 Mc.2.2.1 Mc.2.2.2.1).before a0 Z = true)
    (hpd : parseMethodDescriptor y.desc = some ⟨ps, rt⟩) (hna : ps.length = na) (hy : y.cls ≠ "java/lang/invoke/MethodHandle" ∧ y.cls ≠ "java/lang/invoke/VarHandle") (hf0 : Mc.2.2.2.2.1 + 1 ≤ M.2.2.2.2.1) (hl0 : W + (Mc.2.2.1 + 11) + Mc.2.2.2.2.2 ≤ M.2.2.2.2.2) : Sound Z X CT l MT M pc (oCallR k μ na W (pc + 3)) :=
  s_callR hMc w3 w4 hf0 hl0 fun _ _ _ _ _ _ _ _ _ _ _ _ _ Y hx hZ hown hby _ _ B _ _ hc _ _ _ hs hlen hW hpre => by
    simp only [CellOk, hk] at hc
    obtain ⟨cq, kq, qa, qb, qc⟩ := isOf hZ rfl hc.1
    exact Y.virtualBack hx hown (mvT hZ w1) (mvT hZ w2) (hnf _ hZ) (mvT hZ w5) (mvT hZ w6) hy B qa qc (g := mkF _ pc _ _) rfl hs (Steps.refl _) (lenOf hpd (hlen.trans hna.symm)) rfl hW (hb hby hd) hpre
theorem s_private {C : String} {μ na W idx n1 : Nat} {Mc : MI} {fs : List (String × String × String × FieldType)} {ps : List FieldType} {rt : Option FieldType} (hd : decode M.2.1 pc = .ok (.invokevirtual idx, 3)) (hMc : MT[μ]? = some Mc) (hk : CT[k]? = some (.object C, n1, fs)) (w1 : (Jvm.Cond.methodLink M.1.cls idx Mc.1).before a0 Z = true) (w2 : (Jvm.Cond.instanceMethod Mc.1).before a0 Z = true) (w5 : (Jvm.Cond.selects Mc.1.cls Mc.1 Mc.1).before a0 Z = true) (w6 : (Jvm.Cond.privateMethod Mc.1).before a0 Z = true) (w3 : (Jvm.Cond.initialized Mc.1.cls).before a0 Z = true) (w4 : (Jvm.Cond.code Mc.1 Mc.2.1 Mc.2.2.1 Mc.2.2.2.1).before a0 Z = true)
    (hpd : parseMethodDescriptor Mc.1.desc = some ⟨ps, rt⟩) (hna : ps.length = na) (hy : Mc.1.cls ≠ "java/lang/invoke/MethodHandle" ∧ Mc.1.cls ≠ "java/lang/invoke/VarHandle") (hf0 : Mc.2.2.2.2.1 + 1 ≤ M.2.2.2.2.1) (hl0 : W + (Mc.2.2.1 + 11) + Mc.2.2.2.2.2 ≤ M.2.2.2.2.2) : Sound Z X CT l MT M pc (oCallR k μ na W (pc + 3)) :=
  s_callR hMc w3 w4 hf0 hl0 fun _ _ _ _ _ _ _ _ _ _ _ _ _ Y hx hZ hown hby _ _ B _ _ hc _ _ _ hs hlen hW hpre => by
    simp only [CellOk, hk] at hc
    obtain ⟨cq, q, q'⟩ := hc.1.cell
    exact Y.privateBack hx hown (mvT hZ w1) (mvT hZ w2) (mvT hZ w5) (Cond.privateMethod_at (mvP hZ w6 (args := #[]))) (mvT hZ w4) hy B (g := mkF _ pc _ _) rfl hs (Steps.refl _) q q' (lenOf hpd (hlen.trans hna.symm)) rfl hW (hb hby hd) hpre
end Objs
/-! ### from the run to the law's own theorem -/
section Top
variable {X : List Addr} {CT : Tab} {l : Launch} {MT : List MI} {M : MI}
theorem top_met {Z : State} {D : Meths} (hlen : ∀ (μ n : Nat) (code : List (Nat × MOp)), D[μ]? = some (n, code) → ∃ M, MT[μ]? = some M ∧ M.2.2.1 = n ∧ plainFor M.1 = true ∧ ∀ q ∈ code, Sound Z X CT l MT M q.1 q.2) {μ : Nat} {as : List Value} {H Hf : MH} {v : Option Value} (hE : Eval D μ as H (v, Hf)) (hM : MT[μ]? = some M) {R : Room} {ws : List Jvm.Cond} (hf : M.2.2.2.2.1 ≤ R.frames) (hl : M.2.2.2.2.2 ≤ R.locals) (hRc : Hf.length - H.length ≤ R.cells) (hRs : sz CT Hf - sz CT H ≤ R.slots) {h0 : Heap} (hrep : Rep Z X CT h0 H) :
    MetFree l M.1 (head1 (Jvm.Cond.code M.1 M.2.1 M.2.2.1 M.2.2.2.1 :: ws) R)
    (fun a U => a = (as.map (ab Z X)).toArray ∧ Z.Warmed39 U.vm ∧ U.heap = h0) (fun _ _ _ _ _ => True)
    (fun _ U o U' => ∃ w L, o = .returned w ∧ (w = v.map (ab Z X) ∧ Fr Z.heap.size L ∧ Rep Z X CT U'.heap Hf) ∧ FrameEnd U o U' L (Hf.length - H.length) (sz CT Hf - sz CT H)) := by
  obtain ⟨F, k, h⟩ := hE
  cases k with
  | zero => cases h
  | succ k =>
    simp only [callN] at h
    cases hq : D[μ]? with
    | none => simp [hq] at h
    | some q =>
      obtain ⟨n, code⟩ := q
      simp only [hq] at h
      split at h
      · rename_i hn
        obtain ⟨M', h1, rfl, h3, h4⟩ := hlen μ n code hq
        cases hM.symm.trans h1
        exact met_of_run h3 h4 (osnd_callN hlen F k) h hn hf hl hRc hRs hrep
      · cases h
theorem rep_nil (Z : State) (CT : Tab) : Rep Z [] CT Z.heap [] := ⟨Nat.le_refl _, by simp, fun _ _ => rfl, fun i k vs h => by simp at h⟩
end Top
end Jvm.MV
namespace Jvm.MV
open Jvm Jvm.ClassFile Sem Op Lib Jvm.Free Jvm.Stand Jvm.LawKit Jvm.RoadKit Bundle
/-! ### running the small machine by parts -/
def bot : Orc := fun _ _ _ => none
def adv (code : List (Nat × MOp)) : Nat → MS → Option MS
  | 0, st => some st
  | n + 1, (pc, L, S, H) => match look code pc with
    | none => none
    | some f => match f bot L S H with
      | some (.inl st) => adv code n st
      | _ => none
theorem bot_le (c : Orc) : Le bot c := fun _ _ _ _ h => by cases h
section Rules
variable {D : Meths} {code : List (Nat × MOp)} {pc : Nat} {L : List Slot} {S : List Value} {H : MH} {r : MR}
theorem adv_mrun (hc : ∀ w ∈ code, Mono w.2) (c : Orc) : ∀ n st st' k, adv code n st = some st' → mrun c code k st' = some r → mrun c code (n + k) st = some r
  | 0, st, st', k, h, h2 => by cases h; rw [Nat.zero_add]; exact h2
  | n + 1, (pc, L, S, H), st', k, h, h2 => by
    have e : n + 1 + k = (n + k) + 1 := by omega
    rw [e]
    simp only [adv] at h
    simp only [mrun]
    cases hk : look code pc with
    | none => simp [hk] at h
    | some f =>
      simp only [hk] at h ⊢
      cases hf : f bot L S H with
      | none => simp [hf] at h
      | some q =>
        have hm' : f c L S H = some q := hc _ (look_mem hk) bot c L S H q (bot_le c) hf
        rw [hm']
        cases q with
        | inr r' => simp [hf] at h
        | inl st1 => rw [hf] at h; exact adv_mrun hc c n st1 st' k h h2
theorem Go.adv (hc : ∀ w ∈ code, Mono w.2) (n : Nat) {st st' : MS} (h : adv code n st = some st') (hg : Go D code st' r) : Go D code st r := by
  obtain ⟨F, k, m, hg⟩ := hg
  exact ⟨F, k, n + m, adv_mrun hc _ n st st' m h hg⟩
theorem Go.of_run (F k n : Nat) {st : MS} (h : mrun (callN D F k) code n st = some r) : Go D code st r := ⟨F, k, n, h⟩
theorem Eval.intro2 (hD : ∀ q ∈ D, ∀ w ∈ q.2, Mono w.2) {μ : Nat} {as : List Value} {n : Nat} (L0 : List Slot) (hq : D[μ]? = some (n, code)) (hn : (loc as).length ≤ n) (hL : mloc as n = L0) (h : Go D code (0, L0, [], H) r) : Eval D μ as H r := Eval.intro hD hq hn (by rw [hL]; exact h)
theorem Go.icmp {cd : ClassFile.Cond} {t n : Nat} {x y : Int32} (hl : look code pc = some (lift (pIcmp cd t n))) {b : Bool} (h : if_icmp.holds cd x y = b) (hg : Go D code (cond b t n, L, S, H) r) : Go D code (pc, L, .int y :: .int x :: S, H) r :=
  Go.step hl (fun _ => by simp only [lift, pIcmp, h]; cases b <;> rfl) hg
theorem Go.ifc {cd : ClassFile.Cond} {t n : Nat} {x : Int32} (hl : look code pc = some (lift (pIf cd t n))) {b : Bool} (h : ifCond.holds cd x = b) (hg : Go D code (cond b t n, L, S, H) r) : Go D code (pc, L, .int x :: S, H) r :=
  Go.step hl (fun _ => by simp only [lift, pIf, h]; cases b <;> rfl) hg
theorem Go.icmpS {cd : ClassFile.Cond} {t n : Nat} {x y : Int32} (hl : look code pc = some (lift (pIcmp cd t n))) (hg : ∀ b, if_icmp.holds cd x y = b → Go D code (cond b t n, L, S, H) r) : Go D code (pc, L, .int y :: .int x :: S, H) r := Go.icmp hl rfl (hg _ rfl)
theorem Go.ifS {cd : ClassFile.Cond} {t n : Nat} {x : Int32} (hl : look code pc = some (lift (pIf cd t n))) (hg : ∀ b, ifCond.holds cd x = b → Go D code (cond b t n, L, S, H) r) : Go D code (pc, L, .int x :: S, H) r := Go.ifc hl rfl (hg _ rfl)
theorem Go.retE {f : MOp} {r' : MR} (hl : look code pc = some f) (hf : ∀ c, f c L S H = some (.inr r')) (he : r' = r) : Go D code (pc, L, S, H) r := he ▸ Go.ret hl hf
theorem Go.ald {k n a : Nat} {j : Int32} {vs : List Value} {v : Value} (hl : look code pc = some (oALd k n)) (hH : H[a]? = some (k, vs)) (hj : ¬ j < 0) (hv : vs[j.toNatClampNeg]? = some v) (hg : Go D code (n, L, v :: S, H) r) : Go D code (pc, L, .int j :: .ref a :: S, H) r := by
  have hb : Nat.beq k k = true := by simp
  exact Go.step hl (fun _ => by simp only [oALd, hH, hb, if_neg hj, hv]) hg
theorem Go.ast {xl k n a : Nat} {t : FieldType} {j x : Int32} {vs : List Value} (hl : look code pc = some (oASt xl k t n)) (hH : H[a]? = some (k, vs)) (ha : xl ≤ a) (hj : ¬ j < 0) (hv : j.toNatClampNeg < vs.length) (hg : Go D code (n, L, S, H.set a (k, vs.set j.toNatClampNeg (.int (nar t x)))) r) : Go D code (pc, L, .int x :: .int j :: .ref a :: S, H) r := by
  have hb : (Nat.beq k k && Nat.ble xl a) = true := by simp [ha]
  have hb2 : Nat.ble vs.length j.toNatClampNeg = false := by
    cases hq : Nat.ble vs.length j.toNatClampNeg with
    | false => rfl
    | true => have := Nat.le_of_ble_eq_true hq; omega
  exact Go.step hl (fun _ => by simp only [oASt, hH, hb, if_neg hj, hb2]) hg
theorem Go.alen {k n a : Nat} {vs : List Value} (hl : look code pc = some (oALen k n)) (hH : H[a]? = some (k, vs)) (hg : Go D code (n, L, .int vs.length.toInt32 :: S, H) r) : Go D code (pc, L, .ref a :: S, H) r := by
  have hb : Nat.beq k k = true := by simp
  exact Go.step hl (fun _ => by simp only [oALen, hH, hb]) hg
theorem Go.getF {k pos n a : Nat} {vs : List Value} {v : Value} (hl : look code pc = some (oGetF k pos n)) (hH : H[a]? = some (k, vs)) (hv : vs[pos]? = some v) (hg : Go D code (n, L, v :: S, H) r) : Go D code (pc, L, .ref a :: S, H) r := by
  have hb : Nat.beq k k = true := by simp
  exact Go.step hl (fun _ => by simp only [oGetF, hH, hb, hv]) hg
theorem Go.putF {xl k pos n a : Nat} {ty : FieldType} {vs : List Value} {v v' : Value} (hl : look code pc = some (oPutF xl k pos ty n)) (hH : H[a]? = some (k, vs)) (ha : xl ≤ a) (hv : cv ty v = some v') (hg : Go D code (n, L, S, H.set a (k, vs.set pos v')) r) : Go D code (pc, L, v :: .ref a :: S, H) r := by
  have hb : (Nat.beq k k && Nat.ble xl a) = true := by simp [ha]
  exact Go.step hl (fun _ => by simp only [oPutF, hH, hb, hv]) hg
theorem Go.rem {n : Nat} {x y : Int32} (hl : look code pc = some (lift (pRem n))) (hy : y ≠ 0) (hg : Go D code (n, L, .int (x % y) :: S, H) r) : Go D code (pc, L, .int y :: .int x :: S, H) r :=
  Go.step hl (fun _ => by simp only [lift, pRem, if_neg hy]) hg
theorem Go.scall (hD : ∀ q ∈ D, ∀ w ∈ q.2, Mono w.2) (hc : ∀ w ∈ code, Mono w.2) {μ na W n : Nat} {as rest : List Value} {v : Option Value} {H' : MH} (hl : look code pc = some (oCall μ na W n)) (hE : Eval D μ as H (v, H')) (hS : S.take na = as.reverse) (hr : S.drop na = rest) (hna : na ≤ S.length) (hW : wt rest ≤ W) (hg : Go D code (n, L, v.toList ++ rest, H') r) : Go D code (pc, L, S, H) r := by
  subst hr
  refine Go.call hD hc hE hl (fun c h => ?_) hg
  have e : (S.take na).reverse = as := by rw [hS, List.reverse_reverse]
  simp only [oCall, if_pos (And.intro hna hW), e, h]
theorem Go.rcall (hD : ∀ q ∈ D, ∀ w ∈ q.2, Mono w.2) (hc : ∀ w ∈ code, Mono w.2) {k μ na W n : Nat} {a : Nat} {vs as rest : List Value} {v : Option Value} {H' : MH} (hl : look code pc = some (oCallR k μ na W n)) (hE : Eval D μ (.ref a :: as) H (v, H')) (hH : H[a]? = some (k, vs)) (hS : S.take na = as.reverse) (ha : S[na]? = some (.ref a)) (hr : S.drop (na + 1) = rest) (hW : wt rest ≤ W) (hg : Go D code (n, L, v.toList ++ rest, H') r) : Go D code (pc, L, S, H) r := by
  subst hr
  have hna : na + 1 ≤ S.length := (List.getElem?_eq_some_iff.mp ha).1
  have hb : Nat.beq k k = true := by simp
  refine Go.call hD hc hE hl (fun c h => ?_) hg
  have e : (S.take na).reverse = as := by rw [hS, List.reverse_reverse]
  simp only [oCallR, if_pos (And.intro hna hW), ha, hH, hb, e, h]
end Rules
def b2i (b : Bool) : Int32 := cond b 1 0
theorem c_lt (x y : Int32) : if_icmp.holds .lt x y = decide (x.toInt < y.toInt) := by
  show decide (x < y) = _
  simp only [Int32.lt_iff_toInt_lt]
theorem c_le (x y : Int32) : if_icmp.holds .le x y = decide (x.toInt ≤ y.toInt) := by
  show decide (x ≤ y) = _
  simp only [Int32.le_iff_toInt_le]
theorem c_gt (x y : Int32) : if_icmp.holds .gt x y = decide (y.toInt < x.toInt) := by
  show decide (y < x) = _
  simp only [Int32.lt_iff_toInt_lt]
theorem c_ge (x y : Int32) : if_icmp.holds .ge x y = decide (y.toInt ≤ x.toInt) := by
  show decide (y ≤ x) = _
  simp only [Int32.le_iff_toInt_le]
theorem c_eq (x y : Int32) : if_icmp.holds .eq x y = decide (x.toInt = y.toInt) := by
  show (x == y) = _
  rw [Bool.eq_iff_iff]; simp [Int32.toInt_inj]
theorem c_ne (x y : Int32) : if_icmp.holds .ne x y = decide (¬ x.toInt = y.toInt) := by
  show (x != y) = _
  rw [Bool.eq_iff_iff]; simp [Int32.toInt_inj]
theorem z_lt (x : Int32) : ifCond.holds .lt x = decide (x.toInt < 0) := c_lt x 0
theorem z_le (x : Int32) : ifCond.holds .le x = decide (x.toInt ≤ 0) := c_le x 0
theorem z_gt (x : Int32) : ifCond.holds .gt x = decide (0 < x.toInt) := c_gt x 0
theorem z_ge (x : Int32) : ifCond.holds .ge x = decide (0 ≤ x.toInt) := c_ge x 0
theorem z_eq (x : Int32) : ifCond.holds .eq x = decide (x.toInt = 0) := c_eq x 0
theorem z_ne (x : Int32) : ifCond.holds .ne x = decide (¬ x.toInt = 0) := c_ne x 0
theorem z_eqb (b : Bool) : ifCond.holds .eq (b2i b) = !b := by cases b <;> rfl
theorem z_neb (b : Bool) : ifCond.holds .ne (b2i b) = b := by cases b <;> rfl
theorem nar_b (b : Bool) : nar .boolean (b2i b) = b2i b := by cases b <;> rfl
theorem ret_t {P : Prop} [Decidable P] (H : MH) (h : P) : ((some (.int (nar .boolean 1)), H) : MR) = (some (.int (b2i (decide P))), H) := by simp [h, b2i, nar]
theorem ret_f {P : Prop} [Decidable P] (H : MH) (h : ¬ P) : ((some (.int (nar .boolean 0)), H) : MR) = (some (.int (b2i (decide P))), H) := by simp [h, b2i, nar]
theorem and_rng (x m : Int32) (hm : 0 ≤ m.toInt) : 0 ≤ (x &&& m).toInt ∧ (x &&& m).toInt ≤ m.toInt := by
  have h1 : (x.toBitVec &&& m.toBitVec).toNat ≤ m.toBitVec.toNat := by rw [BitVec.toNat_and]; exact Nat.and_le_right
  have h2 := m.toBitVec.isLt
  have h0 : 0 ≤ m.toBitVec.toInt := hm
  show 0 ≤ (x.toBitVec &&& m.toBitVec).toInt ∧ (x.toBitVec &&& m.toBitVec).toInt ≤ m.toBitVec.toInt
  rw [BitVec.toInt_eq_toNat_cond] at h0
  rw [BitVec.toInt_eq_toNat_cond, BitVec.toInt_eq_toNat_cond]
  split at h0 <;> (try split) <;> omega
theorem rem_rng (x m : Int32) (hx : 0 ≤ x.toInt) (hm : 0 < m.toInt) : 0 ≤ (x % m).toInt ∧ (x % m).toInt < m.toInt := by
  rw [Int32.toInt_mod]
  exact ⟨Int.tmod_nonneg _ hx, Int.tmod_lt_of_pos _ hm⟩
theorem of_toInt {x : Int32} {n : Int} (m : Int32) (hm : m.toInt = n) (h : x.toInt = n) : x = m := Int32.toInt_inj.mp (h.trans hm.symm)
theorem inc_toInt (i : Int32) (h : i.toInt < 2147483647) : (i + 1).toInt = i.toInt + 1 := by
  have h1 := Int32.le_toInt i
  rw [Int32.toInt_add]
  show Int.bmod (i.toInt + 1) (2 ^ 32) = _
  rw [Int.bmod_def]; omega
theorem clamp_toInt (i : Int32) : i.toNatClampNeg = i.toInt.toNat := rfl
theorem not_neg (i : Int32) (h : 0 ≤ i.toInt) : ¬ i < 0 := by
  rw [Int32.lt_iff_toInt_lt]
  show ¬ i.toInt < 0
  omega
theorem small4 {x : Int32} (h0 : 0 ≤ x.toInt) (h1 : x.toInt ≤ 3) : x = 0 ∨ x = 1 ∨ x = 2 ∨ x = 3 := by
  have : x.toInt = 0 ∨ x.toInt = 1 ∨ x.toInt = 2 ∨ x.toInt = 3 := by omega
  rcases this with h | h | h | h
  · exact Or.inl (of_toInt 0 rfl h)
  · exact Or.inr (Or.inl (of_toInt 1 rfl h))
  · exact Or.inr (Or.inr (Or.inl (of_toInt 2 rfl h)))
  · exact Or.inr (Or.inr (Or.inr (of_toInt 3 rfl h)))
theorem small5 {x : Int32} (h0 : 0 ≤ x.toInt) (h1 : x.toInt < 5) : x = 0 ∨ x = 1 ∨ x = 2 ∨ x = 3 ∨ x = 4 := by
  have : x.toInt = 0 ∨ x.toInt = 1 ∨ x.toInt = 2 ∨ x.toInt = 3 ∨ x.toInt = 4 := by omega
  rcases this with h | h | h | h | h
  · exact Or.inl (of_toInt 0 rfl h)
  · exact Or.inr (Or.inl (of_toInt 1 rfl h))
  · exact Or.inr (Or.inr (Or.inl (of_toInt 2 rfl h)))
  · exact Or.inr (Or.inr (Or.inr (Or.inl (of_toInt 3 rfl h))))
  · exact Or.inr (Or.inr (Or.inr (Or.inr (of_toInt 4 rfl h))))
theorem and3 (i : Int32) : i &&& 3 = 0 ∨ i &&& 3 = 1 ∨ i &&& 3 = 2 ∨ i &&& 3 = 3 := have h := and_rng i 3 (by decide); small4 h.1 h.2
end Jvm.MV
namespace Jvm.MV
open Jvm Jvm.ClassFile Sem Op Lib Jvm.Free Jvm.Stand Jvm.LawKit Jvm.RoadKit Bundle
/-! ### statics, System.arraycopy, clone, checkcast -/
def oGetS (v : Value) (n : Nat) : MOp := fun _ L S H => some (.inl (n, L, v :: S, H))
def copyOk (xl k : Nat) (t : FieldType) (W : Nat) (nn dp sp : Int32) (b : Nat) (k1 k2 : Nat) (us vs S' : List Value) : Bool :=
  Nat.beq k1 k && Nat.beq k2 k && Nat.ble xl b && decide (0 ≤ sp) && decide (0 ≤ dp) && decide (0 ≤ nn) && Nat.ble (sp.toNatClampNeg + nn.toNatClampNeg) us.length && Nat.ble (dp.toNatClampNeg + nn.toNatClampNeg) vs.length && us.all (fits t) && vs.all (fits t) && Nat.ble (wt S') W && Nat.ble us.length 65535 && Nat.ble vs.length 65535
def oCopy (xl k : Nat) (t : FieldType) (W n : Nat) : MOp := fun _ L S H => match S with
  | .int nn :: .int dp :: .ref b :: .int sp :: .ref a :: S' => match H[a]? with
    | some (k1, us) => match H[b]? with
      | some (k2, vs) => match copyOk xl k t W nn dp sp b k1 k2 us vs S' with
        | true => some (.inl (n, L, S', H.set b (k2, vs.take dp.toNatClampNeg ++ (us.drop sp.toNatClampNeg).take nn.toNatClampNeg ++ vs.drop (dp.toNatClampNeg + nn.toNatClampNeg))))
        | false => none
      | none => none
    | none => none
  | _ => none
def oClone (k : Nat) (t : FieldType) (W n : Nat) : MOp := fun _ L S H => match S with
  | .ref a :: S' => match H[a]? with
    | some (k1, us) => match Nat.beq k1 k && us.all (fits t) && Nat.ble (wt S') W with
      | true => some (.inl (n, L, .ref H.length :: S', H ++ [(k1, us)]))
      | false => none
    | none => none
  | _ => none
def oCast (k n : Nat) : MOp := fun _ L S H => match S with
  | .ref a :: S' => match H[a]? with
    | some (k1, _) => match Nat.beq k1 k with
      | true => some (.inl (n, L, .ref a :: S', H))
      | false => none
    | none => none
  | .null :: S' => some (.inl (n, L, .null :: S', H))
  | _ => none
section More
variable {Z : State} {X : List Addr} {CT : Tab} {l : Launch} {MT : List MI} {M : MI} {pc : Nat} {a0 : Array Value} {h h' : Heap} {H : MH} {i k : Nat} {vs : List Value}
theorem s_getS {R0 O nm d host : String} {idx : Nat} {v : Value} (hd : decode M.2.1 pc = .ok (.getstatic idx, 3)) (w : (Jvm.Cond.fieldLink M.1.cls idx R0 nm d).before a0 Z = true ∨ (Jvm.Cond.fieldLinkNest M.1.cls idx R0 nm d host).before a0 Z = true) (via : Via Z R0 O nm d) (hS : Sta Z Z.heap O nm d (ab Z X v)) : Sound Z X CT l MT M pc (oGetS v (pc + 3)) := by
  refine ⟨fun _ _ _ _ _ _ _ h => h, grow_same fun c L S H r h => by cases h; rfl, ?_⟩
  intro p e R s m args below meth c hx hZ hown hby hnm hret hlk hf hl call hcall H0 Hf hRc hRs T L S H hs r h
  cases h
  intro b1 b2
  obtain ⟨locs, Y, hrep, hfr, hlen, h1, h2, h3⟩ := hs
  have hS' : Sta Z T.heap O nm d (ab Z X v) := by
    obtain ⟨cf, i, kk, f, st, cell, q1, q2, q3, q4, q5, q6, q7⟩ := hS
    exact ⟨cf, i, kk, f, st, cell, q1, q2, q3, q4, by rw [hrep.2.2.1 st (Array.getElem?_eq_some_iff.mp q5).1]; exact q5, q6, q7⟩
  obtain ⟨T', Y', e', st⟩ := getS2 Y hx hZ hown w via rfl hS' (g := fra Z X m pc L S) rfl (hb hby hd)
  exact ⟨T', ⟨locs, Y', by rw [e']; exact hrep, hfr, hlen, h1, h2, h3⟩, st⟩
theorem len32 {n : Nat} (hn : n ≤ 65535) : n.toInt32.toNatClampNeg = n ∧ ¬ n.toInt32 < 0 := by
  have q : n.toInt32.toInt = n := len_toInt (by omega)
  refine ⟨by rw [clamp_toInt, q]; simp, not_neg _ (by omega)⟩
theorem fits_ab {t : FieldType} {v : Value} : fits t (ab Z X v) = fits t v := by cases t <;> cases v <;> rfl
theorem arv_of {t : FieldType} {a : Addr} {c : Cell} (A : Arr Z h a c t) (hs : c.slots = (vs.map (ab Z X)).toArray) (hn : vs.length ≤ 65535) (hf : vs.all (fits t) = true) : Arv Z h a c.cls t vs.length.toInt32 (vs.map (ab Z X)) .null := by
  refine ⟨c, A, rfl, by rw [hs, (len32 hn).1]; simp, (len32 hn).2, fun k hk => ?_, fun i hi => ?_⟩
  · rw [hs] at hk ⊢
    simp at hk
    simp [hk]
  · rw [hs] at hi
    simp at hi
    have : vs[i] ∈ vs := List.getElem_mem hi
    have q := List.all_eq_true.mp hf _ this
    simp [hi, fits_ab, q]
theorem CellOk.keep {a : Addr} {ws : List Addr} (K : Keep h h' ws) (hne : a ∉ ws) (q : CellOk Z X CT h a k vs) : CellOk Z X CT h' a k vs := by
  simp only [CellOk] at q ⊢
  split at q
  · obtain ⟨c, A, s, q1, q2⟩ := q
    exact ⟨c, ⟨K.2.1 a c A.1 hne, A.2⟩, s, fun w => (q1 w).keep K, q2⟩
  · exact ⟨q.1.keep K, q.2.1, fun j O nm d ty v h1 h2 => (q.2.2 j O nm d ty v h1 h2).keep K hne⟩
  · exact q
theorem s_copy (hX : ∀ a ∈ X, a < Z.heap.size) {t : FieldType} {n1 idx W : Nat} {fs : List (String × String × String × FieldType)} (hd : decode M.2.1 pc = .ok (.invokestatic idx, 3)) (hk : CT[k]? = some (.array t, n1, fs)) (hp : refKind t = false)
    (w1 : (Jvm.Cond.methodLink M.1.cls idx Jvm.Stand.acN).before a0 Z = true) (w2 : (Jvm.Cond.native Jvm.Stand.acN).before a0 Z = true) (w3 : (Jvm.Cond.static Jvm.Stand.acN).before a0 Z = true) (w4 : (Jvm.Cond.initialized "java/lang/System").before a0 Z = true) (hf0 : 1 ≤ M.2.2.2.2.1) (hl0 : W + (nativeFrameWords "java/lang/System" "arraycopy" 5 + 11) ≤ M.2.2.2.2.2) : Sound Z X CT l MT M pc (oCopy X.length k t W (pc + 3)) := by
  have sset : ∀ {H : MH} {a : Nat} {vs ws : List Value}, ws.length = vs.length → H[a]? = some (k, vs) → sz CT (H.set a (k, ws)) = sz CT H := fun hl hH => sz_set hH (by simp [szc, hk, hl])
  have wl : ∀ {us vs : List Value} {d n s : Nat}, s + n ≤ us.length → d + n ≤ vs.length → (vs.take d ++ (us.drop s).take n ++ vs.drop (d + n)).length = vs.length := fun h1 h2 => by simp; omega
  refine ⟨fun _ _ _ _ _ _ _ h => h, fun call L S H r hc h => ?_, ?_⟩
  · simp only [oCopy] at h
    split at h
    · split at h
      · rename_i k1 us hA
        split at h
        · rename_i k2 vs hB
          split at h
          · rename_i hok
            simp only [copyOk, Bool.and_eq_true, decide_eq_true_eq] at hok
            obtain ⟨⟨⟨⟨⟨⟨⟨⟨⟨⟨⟨⟨o1, o2⟩, o3⟩, o4⟩, o5⟩, o6⟩, o7⟩, o8⟩, o9⟩, o10⟩, o11⟩, o12⟩, o13⟩ := hok
            have e2 := Nat.eq_of_beq_eq_true o2
            subst e2
            cases h
            exact ⟨by simp [hOf], by simp only [hOf]; rw [sset (wl (Nat.le_of_ble_eq_true o7) (Nat.le_of_ble_eq_true o8)) hB]; exact Nat.le_refl _⟩
          · cases h
        · cases h
      · cases h
    · cases h
  · intro p e R s m args below meth c hx hZ hown hby hnm hret hlk hf hl call hcall H0 Hf hRc hRs T L S H hs r h
    simp only [oCopy] at h
    split at h
    · rename_i nn dp b sp a S'
      split at h
      · rename_i k1 us hA
        split at h
        · rename_i k2 vs hB
          split at h
          · rename_i hok
            simp only [copyOk, Bool.and_eq_true, decide_eq_true_eq] at hok
            obtain ⟨⟨⟨⟨⟨⟨⟨⟨⟨⟨⟨⟨o1, o2⟩, o3⟩, o4⟩, o5⟩, o6⟩, o7⟩, o8⟩, o9⟩, o10⟩, o11⟩, o12⟩, o13⟩ := hok
            have e1 := Nat.eq_of_beq_eq_true o1
            have e2 := Nat.eq_of_beq_eq_true o2
            subst e1
            subst e2
            have p3 := Nat.le_of_ble_eq_true o3
            have p7 := Nat.le_of_ble_eq_true o7
            have p8 := Nat.le_of_ble_eq_true o8
            have p11 := Nat.le_of_ble_eq_true o11
            have p12 := Nat.le_of_ble_eq_true o12
            have p13 := Nat.le_of_ble_eq_true o13
            cases h
            intro b1 b2
            obtain ⟨locs, Y, hrep, hfr, hlen, h1, h2, h3⟩ := hs
            obtain ⟨cA, A, sA, -, -⟩ := arr_at hrep hA hk
            obtain ⟨cB, B, sB, xB, vB⟩ := arr_at hrep hB hk
            have VA := arv_of A sA p12 o9
            have VB := arv_of B sB p13 o10
            have hge : Z.heap.size ≤ ph Z X b := by have := ph_fresh (Z := Z) p3; omega
            have nn0 : ∀ {x : Int32}, 0 ≤ x → ¬ x < 0 := fun {x} q => Int32.not_lt.mpr q
            obtain ⟨T', h', L', Y', e', N', K, V', st⟩ := cpA Y hx hZ hown w1 w2 w3 w4 rfl VA VB (Or.inl ⟨rfl, hp⟩) (nn0 o4) (nn0 o5) (nn0 o6) (by rw [(len32 p12).1]; exact p7) (by rw [(len32 p13).1]; exact p8) (us := (List.range nn.toNatClampNeg).map fun i => (us.map (ab Z X)).getD (sp.toNatClampNeg + i) .null) rfl (by simpa using p8) hfr hge (g := fra Z X m pc L (.int nn :: .int dp :: .ref b :: .int sp :: .ref a :: S')) rfl (by show (List.toArray _).size = _; simp [hlen]) rfl (hb hby hd) (Nat.le_trans hf0 hf) (W := W) (by rw [wt_map]; simpa using p11) (Nat.le_trans hl0 hl)
            have hl' := wl (us := us) (vs := vs) p7 p8
            have eus : ((List.range nn.toNatClampNeg).map fun i => (us.map (ab Z X)).getD (sp.toNatClampNeg + i) .null) = ((us.drop sp.toNatClampNeg).take nn.toNatClampNeg).map (ab Z X) := by
              refine List.ext_getElem (by simp; omega) fun j hj1 hj2 => ?_
              simp at hj1
              have : sp.toNatClampNeg + j < us.length := by omega
              simp [this]
            refine ⟨T', ⟨L', ?_, ?_, N', hlen, by simpa using h1, by rw [sset hl' hB]; exact h2, h3⟩, st⟩
            · rw [sset hl' hB, List.length_set]; exact Y'
            · rw [e']
              obtain ⟨r1, r2, r3, r4⟩ := hrep
              have hsz : h'.size = T.heap.size := by
                have q1 := K.1
                have q2 : T'.heap.size ≤ _ := Y'.heapSize
                rw [e'] at q2
                omega
              refine ⟨by simpa using r1, by rw [hsz]; simpa using r2, fun x hx => ?_, fun j k' vs' hj => ?_⟩
              · have hlt : x < T.heap.size := by omega
                have hne : x ∉ [ph Z X b] := by simp; omega
                have ee : T.heap[x]? = some T.heap[x] := Array.getElem?_eq_getElem hlt
                rw [K.2.1 x _ ee hne, ← ee]; exact r3 x hx
              · by_cases ej : j = b
                · subst ej
                  have hlb : j < H.length := (List.getElem?_eq_some_iff.mp hB).1
                  rw [List.getElem?_set_self hlb] at hj
                  cases hj
                  simp only [CellOk, hk]
                  obtain ⟨c', A', q1, q2, q3, q4, q5⟩ := V'
                  refine ⟨c', A', ?_, fun w => (xB w).keep K, fun w C hC => by rw [q1]; exact vB w C hC⟩
                  have zs : c'.slots.size = vs.length := by rw [q2, (len32 p13).1]
                  rw [eus] at q4
                  refine Array.ext (by simp [zs]; omega) fun y hy1 hy2 => ?_
                  have q := q4 y hy1
                  rw [Array.getElem?_eq_getElem hy1] at q
                  have q' := Option.some.inj q
                  rw [q']
                  simp only [List.map_append, List.map_take, List.map_drop, List.getElem_toArray]
                  have hy3 : y < (List.take dp.toNatClampNeg (List.map (ab Z X) vs) ++ List.take nn.toNatClampNeg (List.drop sp.toNatClampNeg (List.map (ab Z X) us)) ++ List.drop (dp.toNatClampNeg + nn.toNatClampNeg) (List.map (ab Z X) vs)).length := by simp; omega
                  rw [List.getD_eq_getElem?_getD, List.getElem?_eq_getElem hy3]; rfl
                · rw [List.getElem?_set_ne (Ne.symm ej)] at hj
                  exact (r4 j k' vs' hj).keep K (by simpa using ph_ne hX ej (Or.inr p3))
          · cases h
        · cases h
      · cases h
    · cases h
theorem s_clone {t : FieldType} {ad : String} {idx W : Nat} {fs : List (String × String × String × FieldType)} (hd : decode M.2.1 pc = .ok (.invokevirtual idx, 3)) (hk : CT[k]? = some (.array t, 1, fs)) (had : "[" ++ t.toString = ad) (hp : ∀ C, t ≠ .object C)
    (w1 : (Jvm.Cond.methodLink M.1.cls idx ⟨ad, "clone", "()Ljava/lang/Object;"⟩).before a0 Z = true) (w2 : (Jvm.Cond.sameMethod ad "java/lang/Object" "clone" "()Ljava/lang/Object;").before a0 Z = true) (w3 : (Jvm.Cond.native ⟨"java/lang/Object", "clone", "()Ljava/lang/Object;"⟩).before a0 Z = true)
    (w4 : (Jvm.Cond.instanceMethod ⟨"java/lang/Object", "clone", "()Ljava/lang/Object;"⟩).before a0 Z = true) (w5 : (Jvm.Cond.selects ad ⟨ad, "clone", "()Ljava/lang/Object;"⟩ ⟨"java/lang/Object", "clone", "()Ljava/lang/Object;"⟩).before a0 Z = true) (w6 : (Jvm.Cond.castable ad "java/lang/Cloneable").before a0 Z = true) (hf0 : 1 ≤ M.2.2.2.2.1) (hl0 : W + 14 ≤ M.2.2.2.2.2) : Sound Z X CT l MT M pc (oClone k t W (pc + 3)) := by
  refine ⟨fun _ _ _ _ _ _ _ h => h, fun call L S H r hc h => ?_, ?_⟩
  · simp only [oClone] at h
    repeat' (split at h)
    all_goals first | (cases h; done) | (cases h; exact ⟨by simp [hOf], by simp only [hOf, sz_app]; omega⟩)
  · intro p e R s m args below meth c hx hZ hown hby hnm hret hlk hf hl call hcall H0 Hf hRc hRs T L S H hs r h
    simp only [oClone] at h
    split at h
    · rename_i a S'
      split at h
      · rename_i k1 us hA
        split at h
        · rename_i hok
          simp only [Bool.and_eq_true] at hok
          obtain ⟨⟨o1, o2⟩, o3⟩ := hok
          have e1 := Nat.eq_of_beq_eq_true o1
          subst e1
          have p3 := Nat.le_of_ble_eq_true o3
          cases h
          intro b1 b2
          obtain ⟨locs, Y, hrep, hfr, hlen, h1, h2, h3⟩ := hs
          obtain ⟨cA, A, sA, xA, -⟩ := arr_at hrep hA hk
          have es : szc CT (k1, us) = us.length := by simp [szc, hk]
          rw [sz_app, es] at b2
          simp at b1
          have FC : FitC Z cA := fitC_of A fun j hj v hv => by
            rw [sA] at hv
            simp only [List.getElem?_toArray, List.getElem?_map, Option.map_eq_some_iff] at hv
            obtain ⟨u, hu, rfl⟩ := hv
            rw [fits_ab]; exact List.all_eq_true.mp o2 _ (List.mem_of_getElem? hu)
          obtain ⟨T', h', Y', e', E, A', Ex, st⟩ := cloneA Y hx hZ hown w1 w2 w3 w4 w5 w6 rfl A (had ▸ xA rfl) FC (g := fra Z X m pc L (.ref a :: S')) rfl (by show (List.toArray _).size = _; simp [hlen]) rfl (hb hby hd) (Nat.le_trans hf0 hf) (W := W) (cap := us.length) (by rw [wt_map]; simpa using p3) (Nat.le_trans hl0 hl) (by rw [sA]; simp) (by omega) (by omega)
          have hsz : h'.size = T.heap.size + 1 := by
            have q1 : T.heap.size < h'.size := A'.lt
            have q2 : T'.heap.size ≤ _ := Y'.heapSize
            have q3 := hrep.2.1
            obtain ⟨u1, u2⟩ := h3
            have q4 := hrep.1
            rw [e'] at q2
            omega
          refine ⟨T', ⟨locs, ?_, ?_, hfr, hlen, by simp; omega, by rw [sz_app]; omega, h3⟩, fun target ht => st _ ?_⟩
          · have e1 : (H ++ [(k1, us)]).length - H0.length = H.length - H0.length + 1 := by simp; omega
            have e2 : sz CT (H ++ [(k1, us)]) - sz CT H0 = sz CT H - sz CT H0 + us.length := by rw [sz_app, es]; omega
            rw [e1, e2]; exact Y'
          · rw [e']
            refine hrep.push E hsz ?_
            simp only [CellOk, hk]
            exact ⟨_, A', by show (cloneOf cA).slots = _; rw [← sA], fun _ => had ▸ Ex, fun _ C hC => absurd hC (hp C)⟩
          · have e3 : ab Z X (.ref H.length) = .ref T.heap.size := by simp only [ab, ph_fresh hrep.1, hrep.2.1]
            show Steps p.tables e below (T'.setTop (mkF m (pc + 3) _ (.ref T.heap.size :: _))) target
            rw [← e3]; exact ht
        · cases h
      · cases h
    · cases h
theorem s_virtualUp {C owner : String} {y : MethodName} {μ na W idx n1 : Nat} {Mc : MI} {fs : List (String × String × String × FieldType)} {ps : List FieldType} {rt : Option FieldType} (hd : decode M.2.1 pc = .ok (.invokevirtual idx, 3)) (hMc : MT[μ]? = some Mc) (hk : CT[k]? = some (.object C, n1, fs)) (w1 : (Jvm.Cond.methodLink M.1.cls idx y).before a0 Z = true) (w2 : (Jvm.Cond.sameMethod y.cls owner y.name y.desc).before a0 Z = true) (w7 : (Jvm.Cond.declares ⟨owner, y.name, y.desc⟩).before a0 Z = true) (hy : owner ≠ "java/lang/invoke/MethodHandle" ∧ owner ≠ "java/lang/invoke/VarHandle") (w5 : (Jvm.Cond.selects C y Mc.1).before a0 Z = true) (w6 : (Jvm.Cond.instanceMethod Mc.1).before a0 Z = true) (w3 : (Jvm.Cond.initialized Mc.1.cls).before a0 Z = true) (w4 : (Jvm.Cond.code Mc.1 Mc.2.1 Mc.2.2.1 Mc.2.2.2.1).before a0 Z = true)
    (hpd : parseMethodDescriptor y.desc = some ⟨ps, rt⟩) (hna : ps.length = na) (hf0 : Mc.2.2.2.2.1 + 1 ≤ M.2.2.2.2.1) (hl0 : W + (Mc.2.2.1 + 11) + Mc.2.2.2.2.2 ≤ M.2.2.2.2.2) : Sound Z X CT l MT M pc (oCallR k μ na W (pc + 3)) :=
  s_callR hMc w3 w4 hf0 hl0 fun _ _ _ _ _ _ _ _ _ _ _ _ _ Y hx hZ hown hby _ _ B _ _ hc _ _ _ hs hlen hW hpre => by
    simp only [CellOk, hk] at hc
    obtain ⟨cq, kq, qa, qb, qc⟩ := isOf hZ rfl hc.1
    exact Y.virtualBackUp hx hown (mvT hZ w1) (mvT hZ w2) (mvT hZ w7) hy (mvT hZ w5) (mvT hZ w6) B qa qc (g := mkF _ pc _ _) rfl hs (Steps.refl _) (lenOf hpd (hlen.trans hna.symm)) rfl hW (hb hby hd) hpre
theorem s_cast {K : String} {idx : Nat} (hd : decode M.2.1 pc = .ok (.checkcast idx, 3)) (w : (Jvm.Cond.classLink M.1.cls idx K).before a0 Z = true) (hI : ∀ (hh : Heap) (a : Addr) (vs : List Value), CellOk Z X CT hh a k vs → Ins Z hh a K true) : Sound Z X CT l MT M pc (oCast k (pc + 3)) := by
  refine ⟨fun _ _ _ _ _ _ _ h => h, grow_same fun c L S H r h => ?_, ?_⟩
  · simp only [oCast] at h
    repeat' (split at h)
    all_goals first | (cases h; done) | (cases h; rfl)
  · intro p e R s m args below meth c hx hZ hown hby hnm hret hlk hf hl call hcall H0 Hf hRc hRs T L S H hs r h
    simp only [oCast] at h
    split at h
    · rename_i a S'
      split at h
      · rename_i k1 us hA
        split at h
        · rename_i hb1
          have e1 := Nat.eq_of_beq_eq_true hb1
          subst e1
          cases h
          intro b1 b2
          obtain ⟨locs, Y, hrep, hfr, hlen, h1, h2, h3⟩ := hs
          obtain ⟨T', Y', e', st⟩ := castY Y hx hZ hown w rfl (hI _ _ _ (hrep.at hA)) (g := fra Z X m pc L (.ref a :: S')) rfl rfl (hb hby hd)
          exact ⟨T', ⟨locs, Y', by rw [e']; exact hrep, hfr, hlen, h1, h2, h3⟩, st⟩
        · cases h
      · cases h
    · rename_i S'
      cases h
      intro b1 b2
      obtain ⟨locs, Y, hrep, hfr, hlen, h1, h2, h3⟩ := hs
      exact ⟨T, ⟨locs, Y, hrep, hfr, hlen, h1, h2, h3⟩, fun target ht => Y.checkcastNull hx (g := fra Z X m pc L (.null :: S')) rfl rfl (hb hby hd) target ht⟩
    · cases h
end More
end Jvm.MV
set_option maxHeartbeats 4000000
namespace Jvm.Pilot.@@N@@
open Jvm Jvm.ClassFile Sem Op Lib Jvm.Free Jvm.Stand Jvm.LawKit Jvm.RoadKit Bundle Jvm.MV Jvm.Pilot.@@N@@.Jvm.D
abbrev H0 : MH := [(6, []), (0, [.int (1732584193), .int (-271733879), .int (-1732584194), .int (271733878), .int (-1009589776)])]
def Hs (c5 : List Value) : MH := [(6, []), (0, [.int (1732584193), .int (-271733879), .int (-1732584194), .int (271733878), .int (-1009589776)]), (5, [.ref 3, .ref 0, .int 64, .long 2305843009213693951, .ref 4, .int 8, .ref 1, .ref 5, .ref 6]), (1, (List.replicate 1 (.int 0))), (1, (List.replicate 64 (.int 0))), (0, c5), (0, (List.replicate 80 (.int 0)))]
theorem len_of_eq {args : Array Value} {s : State} {t : Term} {a : Addr} {c : Cell} {ty : FieldType} {k : Int32} (ht : t.eval args s none [] s = some (.ref a)) (A : Arr s s.heap a c ty) (h : (Jvm.Cond.eq (.length t) (.int k)).value args s none s [] = some true) : c.slots.size = k.toNatClampNeg := by
  obtain ⟨x, y, e1, e2, -, k2⟩ := cmp_v (Or.inl h)
  have e3 : y = .int k := (Option.some.inj e2).symm
  subst e3
  obtain ⟨z, rfl⟩ := k2
  have h' := h
  simp only [Cond.value, e1, e2, Option.some.injEq, decide_eq_true_eq] at h'
  subst h'
  have ha := A.fin (Vm.Alike.refl _)
  simp only [Term.eval, ht, Option.bind_eq_bind, Option.bind_some, ha] at e1
  split at e1
  · rename_i hl
    cases Value.int.inj (Option.some.inj e1)
    rw [clamp_toInt, len_toInt hl]; rfl
  · cases e1
theorem el_of_eq {args : Array Value} {s : State} {t : Term} {a : Addr} {c : Cell} {ty : FieldType} {j k : Int32} (ht : t.eval args s none [] s = some (.ref a)) (A : Arr s s.heap a c ty) (h : (Jvm.Cond.eq (.elem t (.int j)) (.int k)).value args s none s [] = some true) : c.slots[j.toNatClampNeg]? = some (.int k) := by
  obtain ⟨x, y, e1, e2, -, k2⟩ := cmp_v (Or.inl h)
  have e3 : y = .int k := (Option.some.inj e2).symm
  subst e3
  obtain ⟨z, rfl⟩ := k2
  have h' := h
  simp only [Cond.value, e1, e2, Option.some.injEq, decide_eq_true_eq] at h'
  subst h'
  exact (elem_in e1 ht rfl A.1).2
theorem slots5 {xs : Array Value} {v0 v1 v2 v3 v4 : Value} (h : xs.size = (5 : Int32).toNatClampNeg) (h0 : xs[(0 : Int32).toNatClampNeg]? = some v0) (h1 : xs[(1 : Int32).toNatClampNeg]? = some v1) (h2 : xs[(2 : Int32).toNatClampNeg]? = some v2) (h3 : xs[(3 : Int32).toNatClampNeg]? = some v3) (h4 : xs[(4 : Int32).toNatClampNeg]? = some v4) : xs = #[v0, v1, v2, v3, v4] := by
  obtain ⟨l⟩ := xs
  match l, h with
  | [a, b, c, d, e], _ =>
    cases Option.some.inj h0
    cases Option.some.inj h1
    cases Option.some.inj h2
    cases Option.some.inj h3
    cases Option.some.inj h4
    rfl
/-! the program of the small machine: written by gen.py -/
theorem d1_0 : decode prog_54_method_2_code 0 = .ok (.new 8, 3) := by decide +kernel
theorem d1_3 : decode prog_54_method_2_code 3 = .ok (.dup, 1) := by decide +kernel
theorem d1_4 : decode prog_54_method_2_code 4 = .ok (.invokespecial 22, 3) := by decide +kernel
theorem d1_7 : decode prog_54_method_2_code 7 = .ok (.areturn, 1) := by decide +kernel
theorem d2_0 : decode prog_54_method_1_code 0 = .ok (.aload_n 0, 1) := by decide +kernel
theorem d2_1 : decode prog_54_method_1_code 1 = .ok (.getstatic 1, 3) := by decide +kernel
theorem d2_4 : decode prog_54_method_1_code 4 = .ok (.getstatic 7, 3) := by decide +kernel
theorem d2_7 : decode prog_54_method_1_code 7 = .ok (.invokespecial 13, 3) := by decide +kernel
theorem d2_10 : decode prog_54_method_1_code 10 = .ok (.aload_n 0, 1) := by decide +kernel
theorem d2_11 : decode prog_54_method_1_code 11 = .ok (.bipush 80, 2) := by decide +kernel
theorem d2_13 : decode prog_54_method_1_code 13 = .ok (.newarray .int, 2) := by decide +kernel
theorem d2_15 : decode prog_54_method_1_code 15 = .ok (.putfield 19, 3) := by decide +kernel
theorem d2_18 : decode prog_54_method_1_code 18 = .ok (.return_, 1) := by decide +kernel
theorem d3_0 : decode prog_57_method_1_code 0 = .ok (.aload_n 0, 1) := by decide +kernel
theorem d3_1 : decode prog_57_method_1_code 1 = .ok (.aload_n 1, 1) := by decide +kernel
theorem d3_2 : decode prog_57_method_1_code 2 = .ok (.bipush 64, 2) := by decide +kernel
theorem d3_4 : decode prog_57_method_1_code 4 = .ok (.bipush 8, 2) := by decide +kernel
theorem d3_6 : decode prog_57_method_1_code 6 = .ok (.invokespecial 3, 3) := by decide +kernel
theorem d3_9 : decode prog_57_method_1_code 9 = .ok (.aload_n 0, 1) := by decide +kernel
theorem d3_10 : decode prog_57_method_1_code 10 = .ok (.aload_n 2, 1) := by decide +kernel
theorem d3_11 : decode prog_57_method_1_code 11 = .ok (.putfield 9, 3) := by decide +kernel
theorem d3_14 : decode prog_57_method_1_code 14 = .ok (.aload_n 0, 1) := by decide +kernel
theorem d3_15 : decode prog_57_method_1_code 15 = .ok (.aload_n 2, 1) := by decide +kernel
theorem d3_16 : decode prog_57_method_1_code 16 = .ok (.invokevirtual 13, 3) := by decide +kernel
theorem d3_19 : decode prog_57_method_1_code 19 = .ok (.checkcast 14, 3) := by decide +kernel
theorem d3_22 : decode prog_57_method_1_code 22 = .ok (.putfield 18, 3) := by decide +kernel
theorem d3_25 : decode prog_57_method_1_code 25 = .ok (.return_, 1) := by decide +kernel
theorem d4_0 : decode prog_45_method_1_code 0 = .ok (.aload_n 0, 1) := by decide +kernel
theorem d4_1 : decode prog_45_method_1_code 1 = .ok (.aload_n 1, 1) := by decide +kernel
theorem d4_2 : decode prog_45_method_1_code 2 = .ok (.iload_n 2, 1) := by decide +kernel
theorem d4_3 : decode prog_45_method_1_code 3 = .ok (.iload_n 3, 1) := by decide +kernel
theorem d4_4 : decode prog_45_method_1_code 4 = .ok (.invokestatic 1, 3) := by decide +kernel
theorem d4_7 : decode prog_45_method_1_code 7 = .ok (.invokespecial 7, 3) := by decide +kernel
theorem d4_10 : decode prog_45_method_1_code 10 = .ok (.aload_n 0, 1) := by decide +kernel
theorem d4_11 : decode prog_45_method_1_code 11 = .ok (.iload_n 2, 1) := by decide +kernel
theorem d4_12 : decode prog_45_method_1_code 12 = .ok (.newarray .byte, 2) := by decide +kernel
theorem d4_14 : decode prog_45_method_1_code 14 = .ok (.putfield 13, 3) := by decide +kernel
theorem d4_17 : decode prog_45_method_1_code 17 = .ok (.aload_n 0, 1) := by decide +kernel
theorem d4_18 : decode prog_45_method_1_code 18 = .ok (.iload_n 3, 1) := by decide +kernel
theorem d4_19 : decode prog_45_method_1_code 19 = .ok (.putfield 17, 3) := by decide +kernel
theorem d4_22 : decode prog_45_method_1_code 22 = .ok (.return_, 1) := by decide +kernel
theorem d5_0 : decode prog_45_method_2_code 0 = .ok (.iload_n 0, 1) := by decide +kernel
theorem d5_1 : decode prog_45_method_2_code 1 = .ok (.bipush 8, 2) := by decide +kernel
theorem d5_3 : decode prog_45_method_2_code 3 = .ok (.if_icmp .ne 9, 3) := by decide +kernel
theorem d5_6 : decode prog_45_method_2_code 6 = .ok (.ldc2_w 23, 3) := by decide +kernel
theorem d5_9 : decode prog_45_method_2_code 9 = .ok (.goto 6, 3) := by decide +kernel
theorem d5_12 : decode prog_45_method_2_code 12 = .ok (.ldc2_w 25, 3) := by decide +kernel
theorem d5_15 : decode prog_45_method_2_code 15 = .ok (.lreturn, 1) := by decide +kernel
theorem d6_0 : decode prog_51_method_1_code 0 = .ok (.aload_n 0, 1) := by decide +kernel
theorem d6_1 : decode prog_51_method_1_code 1 = .ok (.aload_n 1, 1) := by decide +kernel
theorem d6_2 : decode prog_51_method_1_code 2 = .ok (.iload_n 2, 1) := by decide +kernel
theorem d6_3 : decode prog_51_method_1_code 3 = .ok (.lload_n 3, 1) := by decide +kernel
theorem d6_4 : decode prog_51_method_1_code 4 = .ok (.invokespecial 1, 3) := by decide +kernel
theorem d6_7 : decode prog_51_method_1_code 7 = .ok (.return_, 1) := by decide +kernel
theorem d7_0 : decode prog_47_method_1_code 0 = .ok (.aload_n 0, 1) := by decide +kernel
theorem d7_1 : decode prog_47_method_1_code 1 = .ok (.invokespecial 1, 3) := by decide +kernel
theorem d7_4 : decode prog_47_method_1_code 4 = .ok (.aload_n 0, 1) := by decide +kernel
theorem d7_5 : decode prog_47_method_1_code 5 = .ok (.aload_n 1, 1) := by decide +kernel
theorem d7_6 : decode prog_47_method_1_code 6 = .ok (.putfield 7, 3) := by decide +kernel
theorem d7_9 : decode prog_47_method_1_code 9 = .ok (.aload_n 0, 1) := by decide +kernel
theorem d7_10 : decode prog_47_method_1_code 10 = .ok (.iload_n 2, 1) := by decide +kernel
theorem d7_11 : decode prog_47_method_1_code 11 = .ok (.putfield 13, 3) := by decide +kernel
theorem d7_14 : decode prog_47_method_1_code 14 = .ok (.aload_n 0, 1) := by decide +kernel
theorem d7_15 : decode prog_47_method_1_code 15 = .ok (.lload_n 3, 1) := by decide +kernel
theorem d7_16 : decode prog_47_method_1_code 16 = .ok (.putfield 17, 3) := by decide +kernel
theorem d7_19 : decode prog_47_method_1_code 19 = .ok (.return_, 1) := by decide +kernel
theorem d8_0 : decode prog_52_method_1_code 0 = .ok (.aload_n 0, 1) := by decide +kernel
theorem d8_1 : decode prog_52_method_1_code 1 = .ok (.invokespecial 1, 3) := by decide +kernel
theorem d8_4 : decode prog_52_method_1_code 4 = .ok (.aload_n 0, 1) := by decide +kernel
theorem d8_5 : decode prog_52_method_1_code 5 = .ok (.iconst 1, 1) := by decide +kernel
theorem d8_6 : decode prog_52_method_1_code 6 = .ok (.newarray .byte, 2) := by decide +kernel
theorem d8_8 : decode prog_52_method_1_code 8 = .ok (.putfield 7, 3) := by decide +kernel
theorem d8_11 : decode prog_52_method_1_code 11 = .ok (.return_, 1) := by decide +kernel
theorem d9_0 : decode prog_57_method_3_code 0 = .ok (.aload_n 0, 1) := by decide +kernel
theorem d9_1 : decode prog_57_method_3_code 1 = .ok (.getfield 9, 3) := by decide +kernel
theorem d9_4 : decode prog_57_method_3_code 4 = .ok (.iconst 0, 1) := by decide +kernel
theorem d9_5 : decode prog_57_method_3_code 5 = .ok (.aload_n 0, 1) := by decide +kernel
theorem d9_6 : decode prog_57_method_3_code 6 = .ok (.getfield 18, 3) := by decide +kernel
theorem d9_9 : decode prog_57_method_3_code 9 = .ok (.iconst 0, 1) := by decide +kernel
theorem d9_10 : decode prog_57_method_3_code 10 = .ok (.aload_n 0, 1) := by decide +kernel
theorem d9_11 : decode prog_57_method_3_code 11 = .ok (.getfield 18, 3) := by decide +kernel
theorem d9_14 : decode prog_57_method_3_code 14 = .ok (.arraylength, 1) := by decide +kernel
theorem d9_15 : decode prog_57_method_3_code 15 = .ok (.invokestatic 33, 3) := by decide +kernel
theorem d9_18 : decode prog_57_method_3_code 18 = .ok (.return_, 1) := by decide +kernel
theorem d10_0 : decode method_3_code 0 = .ok (.aload_n 0, 1) := by decide +kernel
theorem d10_1 : decode method_3_code 1 = .ok (.arraylength, 1) := by decide +kernel
theorem d10_2 : decode method_3_code 2 = .ok (.iconst 5, 1) := by decide +kernel
theorem d10_3 : decode method_3_code 3 = .ok (.if_icmp .ne 47, 3) := by decide +kernel
theorem d10_6 : decode method_3_code 6 = .ok (.aload_n 0, 1) := by decide +kernel
theorem d10_7 : decode method_3_code 7 = .ok (.iconst 0, 1) := by decide +kernel
theorem d10_8 : decode method_3_code 8 = .ok (.iaload, 1) := by decide +kernel
theorem d10_9 : decode method_3_code 9 = .ok (.ldc 26, 2) := by decide +kernel
theorem d10_11 : decode method_3_code 11 = .ok (.if_icmp .ne 39, 3) := by decide +kernel
theorem d10_14 : decode method_3_code 14 = .ok (.aload_n 0, 1) := by decide +kernel
theorem d10_15 : decode method_3_code 15 = .ok (.iconst 1, 1) := by decide +kernel
theorem d10_16 : decode method_3_code 16 = .ok (.iaload, 1) := by decide +kernel
theorem d10_17 : decode method_3_code 17 = .ok (.ldc 27, 2) := by decide +kernel
theorem d10_19 : decode method_3_code 19 = .ok (.if_icmp .ne 31, 3) := by decide +kernel
theorem d10_22 : decode method_3_code 22 = .ok (.aload_n 0, 1) := by decide +kernel
theorem d10_23 : decode method_3_code 23 = .ok (.iconst 2, 1) := by decide +kernel
theorem d10_24 : decode method_3_code 24 = .ok (.iaload, 1) := by decide +kernel
theorem d10_25 : decode method_3_code 25 = .ok (.ldc 28, 2) := by decide +kernel
theorem d10_27 : decode method_3_code 27 = .ok (.if_icmp .ne 23, 3) := by decide +kernel
theorem d10_30 : decode method_3_code 30 = .ok (.aload_n 0, 1) := by decide +kernel
theorem d10_31 : decode method_3_code 31 = .ok (.iconst 3, 1) := by decide +kernel
theorem d10_32 : decode method_3_code 32 = .ok (.iaload, 1) := by decide +kernel
theorem d10_33 : decode method_3_code 33 = .ok (.ldc 29, 2) := by decide +kernel
theorem d10_35 : decode method_3_code 35 = .ok (.if_icmp .ne 15, 3) := by decide +kernel
theorem d10_38 : decode method_3_code 38 = .ok (.aload_n 0, 1) := by decide +kernel
theorem d10_39 : decode method_3_code 39 = .ok (.iconst 4, 1) := by decide +kernel
theorem d10_40 : decode method_3_code 40 = .ok (.iaload, 1) := by decide +kernel
theorem d10_41 : decode method_3_code 41 = .ok (.ldc 30, 2) := by decide +kernel
theorem d10_43 : decode method_3_code 43 = .ok (.if_icmp .ne 7, 3) := by decide +kernel
theorem d10_46 : decode method_3_code 46 = .ok (.iconst 1, 1) := by decide +kernel
theorem d10_47 : decode method_3_code 47 = .ok (.goto 4, 3) := by decide +kernel
theorem d10_50 : decode method_3_code 50 = .ok (.iconst 0, 1) := by decide +kernel
theorem d10_51 : decode method_3_code 51 = .ok (.ireturn, 1) := by decide +kernel
theorem pd_0 : parseMethodDescriptor "()Lcom/example/mortise/mortise/Sha1;" = some ⟨[], some (.object "com/example/mortise/mortise/Sha1")⟩ := by decide +kernel
theorem pd_1 : parseMethodDescriptor "()V" = some ⟨[], none⟩ := by decide +kernel
theorem pd_2 : parseMethodDescriptor "([I)Z" = some ⟨[(.array .int)], some .boolean⟩ := by decide +kernel
theorem pd_3 : parseMethodDescriptor "(Lcom/example/mortise/mortise/Algorithm;[I)V" = some ⟨[(.object "com/example/mortise/mortise/Algorithm"), (.array .int)], none⟩ := by decide +kernel
theorem pd_4 : parseMethodDescriptor "(Lcom/example/mortise/mortise/Algorithm;II)V" = some ⟨[(.object "com/example/mortise/mortise/Algorithm"), .int, .int], none⟩ := by decide +kernel
theorem pd_5 : parseMethodDescriptor "(I)J" = some ⟨[.int], some .long⟩ := by decide +kernel
theorem pd_6 : parseMethodDescriptor "(Lcom/example/mortise/mortise/Algorithm;IJ)V" = some ⟨[(.object "com/example/mortise/mortise/Algorithm"), .int, .long], none⟩ := by decide +kernel
def CT : Jvm.MV.Tab := [(.array .int, 1, []), (.array .byte, 1, []), (.array .long, 1, []), (.array .boolean, 1, []), (.array .char, 1, []), (.object "com/example/mortise/mortise/Sha1", 13, [("com/example/mortise/mortise/RunningHash", "oneByte", "[B", (.array .byte)), ("com/example/mortise/mortise/Digest", "algorithm", "Lcom/example/mortise/mortise/Algorithm;", (.object "com/example/mortise/mortise/Algorithm")), ("com/example/mortise/mortise/Digest", "blockBytes", "I", .int), ("com/example/mortise/mortise/Digest", "maxMessageBytes", "J", .long), ("com/example/mortise/mortise/BlockDigest", "pending", "[B", (.array .byte)), ("com/example/mortise/mortise/BlockDigest", "lengthFieldBytes", "I", .int), ("com/example/mortise/mortise/Word32Digest", "initialHash", "[I", (.array .int)), ("com/example/mortise/mortise/Word32Digest", "hash", "[I", (.array .int)), ("com/example/mortise/mortise/Sha1", "schedule", "[I", (.array .int))]), (.object "com/example/mortise/mortise/Algorithm", 0, [])]
abbrev M0 : Jvm.MV.MI := (x, code, maxLocals, ret, 8, 109)
abbrev M1 : Jvm.MV.MI := ((⟨"com/example/mortise/mortise/Sha1", "sha1", "()Lcom/example/mortise/mortise/Sha1;"⟩ : MethodName), prog_54_method_2_code, 0, some (.object "com/example/mortise/mortise/Sha1"), 7, 98)
abbrev M2 : Jvm.MV.MI := ((⟨"com/example/mortise/mortise/Sha1", "<init>", "()V"⟩ : MethodName), prog_54_method_1_code, 1, none, 6, 85)
abbrev M3 : Jvm.MV.MI := ((⟨"com/example/mortise/mortise/Word32Digest", "<init>", "(Lcom/example/mortise/mortise/Algorithm;[I)V"⟩ : MethodName), prog_57_method_1_code, 3, none, 5, 71)
abbrev M4 : Jvm.MV.MI := ((⟨"com/example/mortise/mortise/BlockDigest", "<init>", "(Lcom/example/mortise/mortise/Algorithm;II)V"⟩ : MethodName), prog_45_method_1_code, 4, none, 4, 56)
abbrev M5 : Jvm.MV.MI := ((⟨"com/example/mortise/mortise/BlockDigest", "maxMessageBytes", "(I)J"⟩ : MethodName), prog_45_method_2_code, 1, some .long, 0, 0)
abbrev M6 : Jvm.MV.MI := ((⟨"com/example/mortise/mortise/ResumableDigest", "<init>", "(Lcom/example/mortise/mortise/Algorithm;IJ)V"⟩ : MethodName), prog_51_method_1_code, 5, none, 3, 40)
abbrev M7 : Jvm.MV.MI := ((⟨"com/example/mortise/mortise/Digest", "<init>", "(Lcom/example/mortise/mortise/Algorithm;IJ)V"⟩ : MethodName), prog_47_method_1_code, 5, none, 2, 24)
abbrev M8 : Jvm.MV.MI := ((⟨"com/example/mortise/mortise/RunningHash", "<init>", "()V"⟩ : MethodName), prog_52_method_1_code, 1, none, 1, 12)
abbrev M9 : Jvm.MV.MI := ((⟨"com/example/mortise/mortise/Word32Digest", "resetHash", "()V"⟩ : MethodName), prog_57_method_3_code, 1, none, 1, 40)
abbrev M10 : Jvm.MV.MI := ((⟨"com/example/mortise/mortise/Word32DigestResetHashPinLaw", "isInitial", "([I)Z"⟩ : MethodName), method_3_code, 1, some .boolean, 0, 0)
def MT : List Jvm.MV.MI := [M0, M1, M2, M3, M4, M5, M6, M7, M8, M9, M10]
def c0 : List (Nat × Jvm.MV.MOp) := [(0, oCall 1 0 0 3),
  (3, lift (pAst 6 5)),
  (5, lift (pAld 6 7)),
  (7, oGetF 5 7 10),
  (10, lift (pAst 7 12)),
  (12, lift (pAld 7 14)),
  (14, oALen 0 15),
  (15, lift (pInt (5) 16)),
  (16, lift (pIcmp .eq 21 19)),
  (19, lift (pInt (0) 20)),
  (20, oRetI .boolean),
  (21, lift (pAld 7 23)),
  (23, lift (pInt (0) 24)),
  (24, lift (pIld 0 25)),
  (25, oASt 2 0 .int 26),
  (26, lift (pAld 7 28)),
  (28, lift (pInt (1) 29)),
  (29, lift (pIld 1 30)),
  (30, oASt 2 0 .int 31),
  (31, lift (pAld 7 33)),
  (33, lift (pInt (2) 34)),
  (34, lift (pIld 2 35)),
  (35, oASt 2 0 .int 36),
  (36, lift (pAld 7 38)),
  (38, lift (pInt (3) 39)),
  (39, lift (pIld 3 40)),
  (40, oASt 2 0 .int 41),
  (41, lift (pAld 7 43)),
  (43, lift (pInt (4) 44)),
  (44, lift (pIld 4 46)),
  (46, oASt 2 0 .int 47),
  (47, lift (pAld 6 49)),
  (49, oCallR 5 9 0 0 52),
  (52, lift (pAld 6 54)),
  (54, oGetF 5 7 57),
  (57, oCall 10 1 0 60),
  (60, lift (pIst 8 62)),
  (62, lift (pAld 7 64)),
  (64, lift (pInt (0) 65)),
  (65, lift (pIld 5 67)),
  (67, oASt 2 0 .int 68),
  (68, lift (pAld 7 70)),
  (70, lift (pInt (1) 71)),
  (71, lift (pIld 0 72)),
  (72, lift (pIld 5 74)),
  (74, lift (pBin (· ^^^ ·) 75)),
  (75, oASt 2 0 .int 76),
  (76, lift (pAld 7 78)),
  (78, lift (pInt (2) 79)),
  (79, lift (pIld 1 80)),
  (80, lift (pIld 5 82)),
  (82, lift (pBin (· + ·) 83)),
  (83, oASt 2 0 .int 84),
  (84, lift (pAld 7 86)),
  (86, lift (pInt (3) 87)),
  (87, lift (pIld 2 88)),
  (88, lift (pInt (-1) 89)),
  (89, lift (pBin (· ^^^ ·) 90)),
  (90, oASt 2 0 .int 91),
  (91, lift (pAld 7 93)),
  (93, lift (pInt (4) 94)),
  (94, lift (pIld 3 95)),
  (95, lift (pIld 4 97)),
  (97, lift (pBin (· - ·) 98)),
  (98, oASt 2 0 .int 99),
  (99, lift (pAld 6 101)),
  (101, oCallR 5 9 0 0 104),
  (104, lift (pAld 6 106)),
  (106, oGetF 5 7 109),
  (109, oCall 10 1 0 112),
  (112, lift (pIst 9 114)),
  (114, lift (pIld 8 116)),
  (116, lift (pIf .eq 138 119)),
  (119, lift (pIld 9 121)),
  (121, lift (pIf .eq 138 124)),
  (124, lift (pAld 6 126)),
  (126, oGetF 5 7 129),
  (129, lift (pAld 7 131)),
  (131, lift (pAcmp 2 134 138)),
  (134, lift (pInt (1) 135)),
  (135, lift (pGoto 139)),
  (138, lift (pInt (0) 139)),
  (139, oRetI .boolean)]
def c1 : List (Nat × Jvm.MV.MOp) := [(0, oNew 5 [.null, .null, .int 0, .long 0, .null, .int 0, .null, .null, .null] 3),
  (3, lift (pDup 4)),
  (4, oCallR 5 2 0 1 7),
  (7, oRetA)]
def c2 : List (Nat × Jvm.MV.MOp) := [(0, lift (pAld 0 1)),
  (1, oGetS (.ref 0) 4),
  (4, oGetS (.ref 1) 7),
  (7, oCallR 5 3 2 0 10),
  (10, lift (pAld 0 11)),
  (11, lift (pInt (80) 13)),
  (13, oNewA 0 (.int 0) 15),
  (15, oPutF 2 5 8 (.array .int) 18),
  (18, oRet)]
def c3 : List (Nat × Jvm.MV.MOp) := [(0, lift (pAld 0 1)),
  (1, lift (pAld 1 2)),
  (2, lift (pInt (64) 4)),
  (4, lift (pInt (8) 6)),
  (6, oCallR 5 4 3 0 9),
  (9, lift (pAld 0 10)),
  (10, lift (pAld 2 11)),
  (11, oPutF 2 5 6 (.array .int) 14),
  (14, lift (pAld 0 15)),
  (15, lift (pAld 2 16)),
  (16, oClone 0 .int 1 19),
  (19, oCast 0 22),
  (22, oPutF 2 5 7 (.array .int) 25),
  (25, oRet)]
def c4 : List (Nat × Jvm.MV.MOp) := [(0, lift (pAld 0 1)),
  (1, lift (pAld 1 2)),
  (2, lift (pIld 2 3)),
  (3, lift (pIld 3 4)),
  (4, oCall 5 1 3 7),
  (7, oCallR 5 6 3 0 10),
  (10, lift (pAld 0 11)),
  (11, lift (pIld 2 12)),
  (12, oNewA 1 (.int 0) 14),
  (14, oPutF 2 5 4 (.array .byte) 17),
  (17, lift (pAld 0 18)),
  (18, lift (pIld 3 19)),
  (19, oPutF 2 5 5 .int 22),
  (22, oRet)]
def c5 : List (Nat × Jvm.MV.MOp) := [(0, lift (pIld 0 1)),
  (1, lift (pInt (8) 3)),
  (3, lift (pIcmp .ne 12 6)),
  (6, lift (pLong (2305843009213693951) 9)),
  (9, lift (pGoto 15)),
  (12, lift (pLong (9223372036854775807) 15)),
  (15, oRetL)]
def c6 : List (Nat × Jvm.MV.MOp) := [(0, lift (pAld 0 1)),
  (1, lift (pAld 1 2)),
  (2, lift (pIld 2 3)),
  (3, lift (pLld 3 4)),
  (4, oCallR 5 7 3 0 7),
  (7, oRet)]
def c7 : List (Nat × Jvm.MV.MOp) := [(0, lift (pAld 0 1)),
  (1, oCallR 5 8 0 0 4),
  (4, lift (pAld 0 5)),
  (5, lift (pAld 1 6)),
  (6, oPutF 2 5 1 (.object "com/example/mortise/mortise/Algorithm") 9),
  (9, lift (pAld 0 10)),
  (10, lift (pIld 2 11)),
  (11, oPutF 2 5 2 .int 14),
  (14, lift (pAld 0 15)),
  (15, lift (pLld 3 16)),
  (16, oPutF 2 5 3 .long 19),
  (19, oRet)]
def c8 : List (Nat × Jvm.MV.MOp) := [(0, lift (pAld 0 1)),
  (1, oInit0 0 4),
  (4, lift (pAld 0 5)),
  (5, lift (pInt (1) 6)),
  (6, oNewA 1 (.int 0) 8),
  (8, oPutF 2 5 0 (.array .byte) 11),
  (11, oRet)]
def c9 : List (Nat × Jvm.MV.MOp) := [(0, lift (pAld 0 1)),
  (1, oGetF 5 6 4),
  (4, lift (pInt (0) 5)),
  (5, lift (pAld 0 6)),
  (6, oGetF 5 7 9),
  (9, lift (pInt (0) 10)),
  (10, lift (pAld 0 11)),
  (11, oGetF 5 7 14),
  (14, oALen 0 15),
  (15, oCopy 2 0 .int 0 18),
  (18, oRet)]
def c10 : List (Nat × Jvm.MV.MOp) := [(0, lift (pAld 0 1)),
  (1, oALen 0 2),
  (2, lift (pInt (5) 3)),
  (3, lift (pIcmp .ne 50 6)),
  (6, lift (pAld 0 7)),
  (7, lift (pInt (0) 8)),
  (8, oALd 0 9),
  (9, lift (pInt (1732584193) 11)),
  (11, lift (pIcmp .ne 50 14)),
  (14, lift (pAld 0 15)),
  (15, lift (pInt (1) 16)),
  (16, oALd 0 17),
  (17, lift (pInt (-271733879) 19)),
  (19, lift (pIcmp .ne 50 22)),
  (22, lift (pAld 0 23)),
  (23, lift (pInt (2) 24)),
  (24, oALd 0 25),
  (25, lift (pInt (-1732584194) 27)),
  (27, lift (pIcmp .ne 50 30)),
  (30, lift (pAld 0 31)),
  (31, lift (pInt (3) 32)),
  (32, oALd 0 33),
  (33, lift (pInt (271733878) 35)),
  (35, lift (pIcmp .ne 50 38)),
  (38, lift (pAld 0 39)),
  (39, lift (pInt (4) 40)),
  (40, oALd 0 41),
  (41, lift (pInt (-1009589776) 43)),
  (43, lift (pIcmp .ne 50 46)),
  (46, lift (pInt (1) 47)),
  (47, lift (pGoto 51)),
  (50, lift (pInt (0) 51)),
  (51, oRetI .boolean)]
def D : Jvm.MV.Meths := [(10, c0), (0, c1), (1, c2), (3, c3), (4, c4), (1, c5), (5, c6), (5, c7), (1, c8), (1, c9), (1, c10)]
section Snd
theorem lay5 (a0 : Array Value) (Z : State) (hw : ∀ d ∈ tables_1, d.before a0 Z = true) : LayIn Z a0 "com/example/mortise/mortise/Sha1" [("com/example/mortise/mortise/RunningHash", "oneByte", "[B", (.array .byte)), ("com/example/mortise/mortise/Digest", "algorithm", "Lcom/example/mortise/mortise/Algorithm;", (.object "com/example/mortise/mortise/Algorithm")), ("com/example/mortise/mortise/Digest", "blockBytes", "I", .int), ("com/example/mortise/mortise/Digest", "maxMessageBytes", "J", .long), ("com/example/mortise/mortise/BlockDigest", "pending", "[B", (.array .byte)), ("com/example/mortise/mortise/BlockDigest", "lengthFieldBytes", "I", .int), ("com/example/mortise/mortise/Word32Digest", "initialHash", "[I", (.array .int)), ("com/example/mortise/mortise/Word32Digest", "hash", "[I", (.array .int)), ("com/example/mortise/mortise/Sha1", "schedule", "[I", (.array .int))] := ⟨⟨Or.inr (hw _ (List.mem_of_getElem? (i := 48) rfl)), by decide +kernel⟩, ⟨Or.inr (hw _ (List.mem_of_getElem? (i := 50) rfl)), by decide +kernel⟩, ⟨Or.inr (hw _ (List.mem_of_getElem? (i := 52) rfl)), by decide +kernel⟩, ⟨Or.inr (hw _ (List.mem_of_getElem? (i := 54) rfl)), by decide +kernel⟩, ⟨Or.inr (hw _ (List.mem_of_getElem? (i := 56) rfl)), by decide +kernel⟩, ⟨Or.inr (hw _ (List.mem_of_getElem? (i := 58) rfl)), by decide +kernel⟩, ⟨Or.inr (hw _ (List.mem_of_getElem? (i := 60) rfl)), by decide +kernel⟩, ⟨Or.inr (hw _ (List.mem_of_getElem? (i := 71) rfl)), by decide +kernel⟩, ⟨Or.inr (hw _ (List.mem_of_getElem? (i := 74) rfl)), by decide +kernel⟩, trivial⟩
theorem nd5 : (([("com/example/mortise/mortise/RunningHash", "oneByte", "[B", (.array .byte)), ("com/example/mortise/mortise/Digest", "algorithm", "Lcom/example/mortise/mortise/Algorithm;", (.object "com/example/mortise/mortise/Algorithm")), ("com/example/mortise/mortise/Digest", "blockBytes", "I", .int), ("com/example/mortise/mortise/Digest", "maxMessageBytes", "J", .long), ("com/example/mortise/mortise/BlockDigest", "pending", "[B", (.array .byte)), ("com/example/mortise/mortise/BlockDigest", "lengthFieldBytes", "I", .int), ("com/example/mortise/mortise/Word32Digest", "initialHash", "[I", (.array .int)), ("com/example/mortise/mortise/Word32Digest", "hash", "[I", (.array .int)), ("com/example/mortise/mortise/Sha1", "schedule", "[I", (.array .int))] : List (String × String × String × FieldType)).map (fun f => f.2.1)).Nodup := by decide +kernel
set_option maxRecDepth 65536 in
set_option maxHeartbeats 4000000 in
theorem snd0 (l : Launch) (a0 : Array Value) (Z : State) (hw : ∀ d ∈ tables_1, d.before a0 Z = true) (aS aI : Addr) (hXX : ∀ a ∈ [aS, aI], a < Z.heap.size) (sS : Sta Z Z.heap "com/example/mortise/mortise/Algorithm" "SHA_1" "Lcom/example/mortise/mortise/Algorithm;" (.ref aS)) (sI : Sta Z Z.heap "com/example/mortise/mortise/Sha1" "INITIAL_HASH" "[I" (.ref aI)): ∀ q ∈ c0, Sound Z [aS, aI] CT l MT M0 q.1 q.2 := by
  have hX : ∀ a ∈ ([aS, aI] : List Addr), a < Z.heap.size := hXX
  have hxl : ∀ i j, i ≠ j → (2 ≤ i ∨ 2 ≤ j) → ph Z [aS, aI] i ≠ ph Z [aS, aI] j := fun i j hij hi => ph_ne hX hij hi
  refine allC_mem (P := Sound Z [aS, aI] CT l MT M0) ?_
  unfold c0
  refine allC_cons (s_callS (Mc := M1) at_0 rfl (hw _ (List.mem_of_getElem? (i := 0) rfl)) (hw _ (List.mem_of_getElem? (i := 1) rfl)) (hw _ (List.mem_of_getElem? (i := 2) rfl)) (hw _ (List.mem_of_getElem? (i := 3) rfl)) pd_0 rfl (by decide) (by decide) (by decide)) ?_
  refine allC_cons (s_astore at_3) ?_
  refine allC_cons (s_aload at_5) ?_
  refine allC_cons (s_getF (k := 5) (pos := 7) at_7 (host := "") (Or.inl (hw _ (List.mem_of_getElem? (i := 75) rfl))) (Via.of (hw _ (List.mem_of_getElem? (i := 76) rfl))) rfl rfl) ?_
  refine allC_cons (s_astore at_10) ?_
  refine allC_cons (s_aload at_12) ?_
  refine allC_cons (s_alen (k := 0) at_14 rfl) ?_
  refine allC_cons (s_iconst at_15 rfl) ?_
  refine allC_cons (s_icmp at_16 (by decide) (by decide)) ?_
  refine allC_cons (s_iconst at_19 rfl) ?_
  refine allC_cons (s_retI at_20 rfl (by simp)) ?_
  refine allC_cons (s_aload at_21) ?_
  refine allC_cons (s_iconst at_23 rfl) ?_
  refine allC_cons (s_iloadN at_24 rfl) ?_
  refine allC_cons (s_iastore (k := 0) hX at_25 rfl) ?_
  refine allC_cons (s_aload at_26) ?_
  refine allC_cons (s_iconst at_28 rfl) ?_
  refine allC_cons (s_iloadN at_29 rfl) ?_
  refine allC_cons (s_iastore (k := 0) hX at_30 rfl) ?_
  refine allC_cons (s_aload at_31) ?_
  refine allC_cons (s_iconst at_33 rfl) ?_
  refine allC_cons (s_iloadN at_34 rfl) ?_
  refine allC_cons (s_iastore (k := 0) hX at_35 rfl) ?_
  refine allC_cons (s_aload at_36) ?_
  refine allC_cons (s_iconst at_38 rfl) ?_
  refine allC_cons (s_iloadN at_39 rfl) ?_
  refine allC_cons (s_iastore (k := 0) hX at_40 rfl) ?_
  refine allC_cons (s_aload at_41) ?_
  refine allC_cons (s_iconst at_43 rfl) ?_
  refine allC_cons (s_iload at_44) ?_
  refine allC_cons (s_iastore (k := 0) hX at_46 rfl) ?_
  refine allC_cons (s_aload at_47) ?_
  refine allC_cons (s_virtualUp (Mc := M9) (k := 5) (y := (⟨"com/example/mortise/mortise/Sha1", "resetHash", "()V"⟩ : MethodName)) at_49 rfl rfl (hw _ (List.mem_of_getElem? (i := 77) rfl)) (hw _ (List.mem_of_getElem? (i := 78) rfl)) (hw _ (List.mem_of_getElem? (i := 79) rfl)) (by decide) (hw _ (List.mem_of_getElem? (i := 81) rfl)) (hw _ (List.mem_of_getElem? (i := 80) rfl)) (hw _ (List.mem_of_getElem? (i := 17) rfl)) (hw _ (List.mem_of_getElem? (i := 82) rfl)) pd_1 rfl (by decide) (by decide)) ?_
  refine allC_cons (s_aload at_52) ?_
  refine allC_cons (s_getF (k := 5) (pos := 7) at_54 (host := "") (Or.inl (hw _ (List.mem_of_getElem? (i := 75) rfl))) (Via.of (hw _ (List.mem_of_getElem? (i := 76) rfl))) rfl rfl) ?_
  refine allC_cons (s_callS (Mc := M10) at_57 rfl (hw _ (List.mem_of_getElem? (i := 87) rfl)) (hw _ (List.mem_of_getElem? (i := 88) rfl)) (hw _ (List.mem_of_getElem? (i := 89) rfl)) (hw _ (List.mem_of_getElem? (i := 90) rfl)) pd_2 rfl (by decide) (by decide) (by decide)) ?_
  refine allC_cons (s_istore at_60) ?_
  refine allC_cons (s_aload at_62) ?_
  refine allC_cons (s_iconst at_64 rfl) ?_
  refine allC_cons (s_iload at_65) ?_
  refine allC_cons (s_iastore (k := 0) hX at_67 rfl) ?_
  refine allC_cons (s_aload at_68) ?_
  refine allC_cons (s_iconst at_70 rfl) ?_
  refine allC_cons (s_iloadN at_71 rfl) ?_
  refine allC_cons (s_iload at_72) ?_
  refine allC_cons (s_ixor at_74) ?_
  refine allC_cons (s_iastore (k := 0) hX at_75 rfl) ?_
  refine allC_cons (s_aload at_76) ?_
  refine allC_cons (s_iconst at_78 rfl) ?_
  refine allC_cons (s_iloadN at_79 rfl) ?_
  refine allC_cons (s_iload at_80) ?_
  refine allC_cons (s_iadd at_82) ?_
  refine allC_cons (s_iastore (k := 0) hX at_83 rfl) ?_
  refine allC_cons (s_aload at_84) ?_
  refine allC_cons (s_iconst at_86 rfl) ?_
  refine allC_cons (s_iloadN at_87 rfl) ?_
  refine allC_cons (s_iconst at_88 rfl) ?_
  refine allC_cons (s_ixor at_89) ?_
  refine allC_cons (s_iastore (k := 0) hX at_90 rfl) ?_
  refine allC_cons (s_aload at_91) ?_
  refine allC_cons (s_iconst at_93 rfl) ?_
  refine allC_cons (s_iloadN at_94 rfl) ?_
  refine allC_cons (s_iload at_95) ?_
  refine allC_cons (s_isub at_97) ?_
  refine allC_cons (s_iastore (k := 0) hX at_98 rfl) ?_
  refine allC_cons (s_aload at_99) ?_
  refine allC_cons (s_virtualUp (Mc := M9) (k := 5) (y := (⟨"com/example/mortise/mortise/Sha1", "resetHash", "()V"⟩ : MethodName)) at_101 rfl rfl (hw _ (List.mem_of_getElem? (i := 77) rfl)) (hw _ (List.mem_of_getElem? (i := 78) rfl)) (hw _ (List.mem_of_getElem? (i := 79) rfl)) (by decide) (hw _ (List.mem_of_getElem? (i := 81) rfl)) (hw _ (List.mem_of_getElem? (i := 80) rfl)) (hw _ (List.mem_of_getElem? (i := 17) rfl)) (hw _ (List.mem_of_getElem? (i := 82) rfl)) pd_1 rfl (by decide) (by decide)) ?_
  refine allC_cons (s_aload at_104) ?_
  refine allC_cons (s_getF (k := 5) (pos := 7) at_106 (host := "") (Or.inl (hw _ (List.mem_of_getElem? (i := 75) rfl))) (Via.of (hw _ (List.mem_of_getElem? (i := 76) rfl))) rfl rfl) ?_
  refine allC_cons (s_callS (Mc := M10) at_109 rfl (hw _ (List.mem_of_getElem? (i := 87) rfl)) (hw _ (List.mem_of_getElem? (i := 88) rfl)) (hw _ (List.mem_of_getElem? (i := 89) rfl)) (hw _ (List.mem_of_getElem? (i := 90) rfl)) pd_2 rfl (by decide) (by decide) (by decide)) ?_
  refine allC_cons (s_istore at_112) ?_
  refine allC_cons (s_iload at_114) ?_
  refine allC_cons (s_if at_116 (by decide) (by decide)) ?_
  refine allC_cons (s_iload at_119) ?_
  refine allC_cons (s_if at_121 (by decide) (by decide)) ?_
  refine allC_cons (s_aload at_124) ?_
  refine allC_cons (s_getF (k := 5) (pos := 7) at_126 (host := "") (Or.inl (hw _ (List.mem_of_getElem? (i := 75) rfl))) (Via.of (hw _ (List.mem_of_getElem? (i := 76) rfl))) rfl rfl) ?_
  refine allC_cons (s_aload at_129) ?_
  refine allC_cons (s_acmpne hxl at_131 (by decide) (by decide)) ?_
  refine allC_cons (s_iconst at_134 rfl) ?_
  refine allC_cons (s_goto at_135 (by decide) (by decide)) ?_
  refine allC_cons (s_iconst at_138 rfl) ?_
  refine allC_cons (s_retI at_139 rfl (by simp)) ?_
  exact allC_nil
theorem pl0 : plainFor M0.1 = true := by first | exact plainFor_of_name (by first | (simp [M0, x, plainName, overriddenIn]; done) | decide +kernel) | decide +kernel
set_option maxRecDepth 65536 in
set_option maxHeartbeats 4000000 in
theorem snd1 (l : Launch) (a0 : Array Value) (Z : State) (hw : ∀ d ∈ tables_1, d.before a0 Z = true) (aS aI : Addr) (hXX : ∀ a ∈ [aS, aI], a < Z.heap.size) (sS : Sta Z Z.heap "com/example/mortise/mortise/Algorithm" "SHA_1" "Lcom/example/mortise/mortise/Algorithm;" (.ref aS)) (sI : Sta Z Z.heap "com/example/mortise/mortise/Sha1" "INITIAL_HASH" "[I" (.ref aI)): ∀ q ∈ c1, Sound Z [aS, aI] CT l MT M1 q.1 q.2 := by
  have hX : ∀ a ∈ ([aS, aI] : List Addr), a < Z.heap.size := hXX
  have hxl : ∀ i j, i ≠ j → (2 ≤ i ∨ 2 ≤ j) → ph Z [aS, aI] i ≠ ph Z [aS, aI] j := fun i j hij hi => ph_ne hX hij hi
  refine allC_mem (P := Sound Z [aS, aI] CT l MT M1) ?_
  unfold c1
  refine allC_cons (s_new (k := 5) d1_0 (hw _ (List.mem_of_getElem? (i := 4) rfl)) (hw _ (List.mem_of_getElem? (i := 5) rfl)) (hw _ (List.mem_of_getElem? (i := 2) rfl)) rfl (lay5 a0 Z hw) rfl) ?_
  refine allC_cons (s_dup d1_3) ?_
  refine allC_cons (s_special (Mc := M2) d1_4 rfl rfl rfl (hw _ (List.mem_of_getElem? (i := 6) rfl)) (hw _ (List.mem_of_getElem? (i := 7) rfl)) (hw _ (List.mem_of_getElem? (i := 2) rfl)) (hw _ (List.mem_of_getElem? (i := 8) rfl)) pd_1 rfl (by decide) (by decide) (by decide)) ?_
  refine allC_cons (s_retA d1_7 rfl rfl) ?_
  exact allC_nil
theorem pl1 : plainFor M1.1 = true := by first | exact plainFor_of_name (by first | (simp [M1, x, plainName, overriddenIn]; done) | decide +kernel) | decide +kernel
set_option maxRecDepth 65536 in
set_option maxHeartbeats 4000000 in
theorem snd2 (l : Launch) (a0 : Array Value) (Z : State) (hw : ∀ d ∈ tables_1, d.before a0 Z = true) (aS aI : Addr) (hXX : ∀ a ∈ [aS, aI], a < Z.heap.size) (sS : Sta Z Z.heap "com/example/mortise/mortise/Algorithm" "SHA_1" "Lcom/example/mortise/mortise/Algorithm;" (.ref aS)) (sI : Sta Z Z.heap "com/example/mortise/mortise/Sha1" "INITIAL_HASH" "[I" (.ref aI)): ∀ q ∈ c2, Sound Z [aS, aI] CT l MT M2 q.1 q.2 := by
  have hX : ∀ a ∈ ([aS, aI] : List Addr), a < Z.heap.size := hXX
  have hxl : ∀ i j, i ≠ j → (2 ≤ i ∨ 2 ≤ j) → ph Z [aS, aI] i ≠ ph Z [aS, aI] j := fun i j hij hi => ph_ne hX hij hi
  refine allC_mem (P := Sound Z [aS, aI] CT l MT M2) ?_
  unfold c2
  refine allC_cons (s_aloadN d2_0 rfl) ?_
  refine allC_cons (s_getS d2_1 (host := "") (Or.inl (hw _ (List.mem_of_getElem? (i := 9) rfl))) Via.refl sS) ?_
  refine allC_cons (s_getS d2_4 (host := "") (Or.inl (hw _ (List.mem_of_getElem? (i := 12) rfl))) Via.refl sI) ?_
  refine allC_cons (s_special (Mc := M3) d2_7 rfl rfl rfl (hw _ (List.mem_of_getElem? (i := 14) rfl)) (hw _ (List.mem_of_getElem? (i := 15) rfl)) (hw _ (List.mem_of_getElem? (i := 17) rfl)) (hw _ (List.mem_of_getElem? (i := 18) rfl)) pd_3 rfl (by decide) (by decide) (by decide)) ?_
  refine allC_cons (s_aloadN d2_10 rfl) ?_
  refine allC_cons (s_bipush d2_11 rfl) ?_
  refine allC_cons (s_newA (k := 0) d2_13 (hw _ (List.mem_of_getElem? (i := 72) rfl)) rfl rfl) ?_
  refine allC_cons (s_putF (k := 5) (pos := 8) hX d2_15 (hw _ (List.mem_of_getElem? (i := 73) rfl)) Via.refl rfl rfl (lay5 a0 Z hw) nd5 (hw _ (List.mem_of_getElem? (i := 5) rfl)) (Or.inr ⟨(hw _ (List.mem_of_getElem? (i := 74) rfl)), rfl, rfl⟩)) ?_
  refine allC_cons (s_ret d2_18 rfl) ?_
  exact allC_nil
theorem pl2 : plainFor M2.1 = true := by first | exact plainFor_of_name (by first | (simp [M2, x, plainName, overriddenIn]; done) | decide +kernel) | decide +kernel
set_option maxRecDepth 65536 in
set_option maxHeartbeats 4000000 in
theorem snd3 (l : Launch) (a0 : Array Value) (Z : State) (hw : ∀ d ∈ tables_1, d.before a0 Z = true) (aS aI : Addr) (hXX : ∀ a ∈ [aS, aI], a < Z.heap.size) (sS : Sta Z Z.heap "com/example/mortise/mortise/Algorithm" "SHA_1" "Lcom/example/mortise/mortise/Algorithm;" (.ref aS)) (sI : Sta Z Z.heap "com/example/mortise/mortise/Sha1" "INITIAL_HASH" "[I" (.ref aI)): ∀ q ∈ c3, Sound Z [aS, aI] CT l MT M3 q.1 q.2 := by
  have hX : ∀ a ∈ ([aS, aI] : List Addr), a < Z.heap.size := hXX
  have hxl : ∀ i j, i ≠ j → (2 ≤ i ∨ 2 ≤ j) → ph Z [aS, aI] i ≠ ph Z [aS, aI] j := fun i j hij hi => ph_ne hX hij hi
  refine allC_mem (P := Sound Z [aS, aI] CT l MT M3) ?_
  unfold c3
  refine allC_cons (s_aloadN d3_0 rfl) ?_
  refine allC_cons (s_aloadN d3_1 rfl) ?_
  refine allC_cons (s_bipush d3_2 rfl) ?_
  refine allC_cons (s_bipush d3_4 rfl) ?_
  refine allC_cons (s_special (Mc := M4) d3_6 rfl rfl rfl (hw _ (List.mem_of_getElem? (i := 19) rfl)) (hw _ (List.mem_of_getElem? (i := 20) rfl)) (hw _ (List.mem_of_getElem? (i := 22) rfl)) (hw _ (List.mem_of_getElem? (i := 23) rfl)) pd_4 rfl (by decide) (by decide) (by decide)) ?_
  refine allC_cons (s_aloadN d3_9 rfl) ?_
  refine allC_cons (s_aloadN d3_10 rfl) ?_
  refine allC_cons (s_putF (k := 5) (pos := 6) hX d3_11 (hw _ (List.mem_of_getElem? (i := 59) rfl)) Via.refl rfl rfl (lay5 a0 Z hw) nd5 (hw _ (List.mem_of_getElem? (i := 5) rfl)) (Or.inr ⟨(hw _ (List.mem_of_getElem? (i := 60) rfl)), rfl, rfl⟩)) ?_
  refine allC_cons (s_aloadN d3_14 rfl) ?_
  refine allC_cons (s_aloadN d3_15 rfl) ?_
  refine allC_cons (s_clone (k := 0) (ad := "[I") d3_16 rfl (by decide) (by simp) (hw _ (List.mem_of_getElem? (i := 61) rfl)) (hw _ (List.mem_of_getElem? (i := 62) rfl)) (hw _ (List.mem_of_getElem? (i := 66) rfl)) (hw _ (List.mem_of_getElem? (i := 64) rfl)) (hw _ (List.mem_of_getElem? (i := 65) rfl)) (hw _ (List.mem_of_getElem? (i := 67) rfl)) (by decide) (by decide)) ?_
  refine allC_cons (s_cast (k := 0) d3_19 (hw _ (List.mem_of_getElem? (i := 68) rfl)) (fun hh a vs q => by obtain ⟨c, A, s, q1, q2⟩ := q; exact Ins.self (q1 rfl))) ?_
  refine allC_cons (s_putF (k := 5) (pos := 7) hX d3_22 (hw _ (List.mem_of_getElem? (i := 70) rfl)) Via.refl rfl rfl (lay5 a0 Z hw) nd5 (hw _ (List.mem_of_getElem? (i := 5) rfl)) (Or.inr ⟨(hw _ (List.mem_of_getElem? (i := 71) rfl)), rfl, rfl⟩)) ?_
  refine allC_cons (s_ret d3_25 rfl) ?_
  exact allC_nil
theorem pl3 : plainFor M3.1 = true := by first | exact plainFor_of_name (by first | (simp [M3, x, plainName, overriddenIn]; done) | decide +kernel) | decide +kernel
set_option maxRecDepth 65536 in
set_option maxHeartbeats 4000000 in
theorem snd4 (l : Launch) (a0 : Array Value) (Z : State) (hw : ∀ d ∈ tables_1, d.before a0 Z = true) (aS aI : Addr) (hXX : ∀ a ∈ [aS, aI], a < Z.heap.size) (sS : Sta Z Z.heap "com/example/mortise/mortise/Algorithm" "SHA_1" "Lcom/example/mortise/mortise/Algorithm;" (.ref aS)) (sI : Sta Z Z.heap "com/example/mortise/mortise/Sha1" "INITIAL_HASH" "[I" (.ref aI)): ∀ q ∈ c4, Sound Z [aS, aI] CT l MT M4 q.1 q.2 := by
  have hX : ∀ a ∈ ([aS, aI] : List Addr), a < Z.heap.size := hXX
  have hxl : ∀ i j, i ≠ j → (2 ≤ i ∨ 2 ≤ j) → ph Z [aS, aI] i ≠ ph Z [aS, aI] j := fun i j hij hi => ph_ne hX hij hi
  refine allC_mem (P := Sound Z [aS, aI] CT l MT M4) ?_
  unfold c4
  refine allC_cons (s_aloadN d4_0 rfl) ?_
  refine allC_cons (s_aloadN d4_1 rfl) ?_
  refine allC_cons (s_iloadN d4_2 rfl) ?_
  refine allC_cons (s_iloadN d4_3 rfl) ?_
  refine allC_cons (s_callS (Mc := M5) d4_4 rfl (hw _ (List.mem_of_getElem? (i := 24) rfl)) (hw _ (List.mem_of_getElem? (i := 25) rfl)) (hw _ (List.mem_of_getElem? (i := 22) rfl)) (hw _ (List.mem_of_getElem? (i := 26) rfl)) pd_5 rfl (by decide) (by decide) (by decide)) ?_
  refine allC_cons (s_special (Mc := M6) d4_7 rfl rfl rfl (hw _ (List.mem_of_getElem? (i := 28) rfl)) (hw _ (List.mem_of_getElem? (i := 29) rfl)) (hw _ (List.mem_of_getElem? (i := 31) rfl)) (hw _ (List.mem_of_getElem? (i := 32) rfl)) pd_6 rfl (by decide) (by decide) (by decide)) ?_
  refine allC_cons (s_aloadN d4_10 rfl) ?_
  refine allC_cons (s_iloadN d4_11 rfl) ?_
  refine allC_cons (s_newA (k := 1) d4_12 (hw _ (List.mem_of_getElem? (i := 46) rfl)) rfl rfl) ?_
  refine allC_cons (s_putF (k := 5) (pos := 4) hX d4_14 (hw _ (List.mem_of_getElem? (i := 55) rfl)) Via.refl rfl rfl (lay5 a0 Z hw) nd5 (hw _ (List.mem_of_getElem? (i := 5) rfl)) (Or.inr ⟨(hw _ (List.mem_of_getElem? (i := 56) rfl)), rfl, rfl⟩)) ?_
  refine allC_cons (s_aloadN d4_17 rfl) ?_
  refine allC_cons (s_iloadN d4_18 rfl) ?_
  refine allC_cons (s_putF (k := 5) (pos := 5) hX d4_19 (hw _ (List.mem_of_getElem? (i := 57) rfl)) Via.refl rfl rfl (lay5 a0 Z hw) nd5 (hw _ (List.mem_of_getElem? (i := 5) rfl)) (Or.inr ⟨(hw _ (List.mem_of_getElem? (i := 58) rfl)), rfl, rfl⟩)) ?_
  refine allC_cons (s_ret d4_22 rfl) ?_
  exact allC_nil
theorem pl4 : plainFor M4.1 = true := by first | exact plainFor_of_name (by first | (simp [M4, x, plainName, overriddenIn]; done) | decide +kernel) | decide +kernel
set_option maxRecDepth 65536 in
set_option maxHeartbeats 4000000 in
theorem snd5 (l : Launch) (a0 : Array Value) (Z : State) (hw : ∀ d ∈ tables_1, d.before a0 Z = true) (aS aI : Addr) (hXX : ∀ a ∈ [aS, aI], a < Z.heap.size) (sS : Sta Z Z.heap "com/example/mortise/mortise/Algorithm" "SHA_1" "Lcom/example/mortise/mortise/Algorithm;" (.ref aS)) (sI : Sta Z Z.heap "com/example/mortise/mortise/Sha1" "INITIAL_HASH" "[I" (.ref aI)): ∀ q ∈ c5, Sound Z [aS, aI] CT l MT M5 q.1 q.2 := by
  have hX : ∀ a ∈ ([aS, aI] : List Addr), a < Z.heap.size := hXX
  have hxl : ∀ i j, i ≠ j → (2 ≤ i ∨ 2 ≤ j) → ph Z [aS, aI] i ≠ ph Z [aS, aI] j := fun i j hij hi => ph_ne hX hij hi
  refine allC_mem (P := Sound Z [aS, aI] CT l MT M5) ?_
  unfold c5
  refine allC_cons (s_iloadN d5_0 rfl) ?_
  refine allC_cons (s_bipush d5_1 rfl) ?_
  refine allC_cons (s_icmp d5_3 (by decide) (by decide)) ?_
  refine allC_cons (s_ldc2Long d5_6 (hw _ (List.mem_of_getElem? (i := 27) rfl))) ?_
  refine allC_cons (s_goto d5_9 (by decide) (by decide)) ?_
  refine allC_cons (s_ldc2Long d5_12 (hw _ (List.mem_of_getElem? (i := 96) rfl))) ?_
  refine allC_cons (s_retL d5_15 rfl) ?_
  exact allC_nil
theorem pl5 : plainFor M5.1 = true := by first | exact plainFor_of_name (by first | (simp [M5, x, plainName, overriddenIn]; done) | decide +kernel) | decide +kernel
set_option maxRecDepth 65536 in
set_option maxHeartbeats 4000000 in
theorem snd6 (l : Launch) (a0 : Array Value) (Z : State) (hw : ∀ d ∈ tables_1, d.before a0 Z = true) (aS aI : Addr) (hXX : ∀ a ∈ [aS, aI], a < Z.heap.size) (sS : Sta Z Z.heap "com/example/mortise/mortise/Algorithm" "SHA_1" "Lcom/example/mortise/mortise/Algorithm;" (.ref aS)) (sI : Sta Z Z.heap "com/example/mortise/mortise/Sha1" "INITIAL_HASH" "[I" (.ref aI)): ∀ q ∈ c6, Sound Z [aS, aI] CT l MT M6 q.1 q.2 := by
  have hX : ∀ a ∈ ([aS, aI] : List Addr), a < Z.heap.size := hXX
  have hxl : ∀ i j, i ≠ j → (2 ≤ i ∨ 2 ≤ j) → ph Z [aS, aI] i ≠ ph Z [aS, aI] j := fun i j hij hi => ph_ne hX hij hi
  refine allC_mem (P := Sound Z [aS, aI] CT l MT M6) ?_
  unfold c6
  refine allC_cons (s_aloadN d6_0 rfl) ?_
  refine allC_cons (s_aloadN d6_1 rfl) ?_
  refine allC_cons (s_iloadN d6_2 rfl) ?_
  refine allC_cons (s_lloadN d6_3 rfl) ?_
  refine allC_cons (s_special (Mc := M7) d6_4 rfl rfl rfl (hw _ (List.mem_of_getElem? (i := 33) rfl)) (hw _ (List.mem_of_getElem? (i := 34) rfl)) (hw _ (List.mem_of_getElem? (i := 36) rfl)) (hw _ (List.mem_of_getElem? (i := 37) rfl)) pd_6 rfl (by decide) (by decide) (by decide)) ?_
  refine allC_cons (s_ret d6_7 rfl) ?_
  exact allC_nil
theorem pl6 : plainFor M6.1 = true := by first | exact plainFor_of_name (by first | (simp [M6, x, plainName, overriddenIn]; done) | decide +kernel) | decide +kernel
set_option maxRecDepth 65536 in
set_option maxHeartbeats 4000000 in
theorem snd7 (l : Launch) (a0 : Array Value) (Z : State) (hw : ∀ d ∈ tables_1, d.before a0 Z = true) (aS aI : Addr) (hXX : ∀ a ∈ [aS, aI], a < Z.heap.size) (sS : Sta Z Z.heap "com/example/mortise/mortise/Algorithm" "SHA_1" "Lcom/example/mortise/mortise/Algorithm;" (.ref aS)) (sI : Sta Z Z.heap "com/example/mortise/mortise/Sha1" "INITIAL_HASH" "[I" (.ref aI)): ∀ q ∈ c7, Sound Z [aS, aI] CT l MT M7 q.1 q.2 := by
  have hX : ∀ a ∈ ([aS, aI] : List Addr), a < Z.heap.size := hXX
  have hxl : ∀ i j, i ≠ j → (2 ≤ i ∨ 2 ≤ j) → ph Z [aS, aI] i ≠ ph Z [aS, aI] j := fun i j hij hi => ph_ne hX hij hi
  refine allC_mem (P := Sound Z [aS, aI] CT l MT M7) ?_
  unfold c7
  refine allC_cons (s_aloadN d7_0 rfl) ?_
  refine allC_cons (s_special (Mc := M8) d7_1 rfl rfl rfl (hw _ (List.mem_of_getElem? (i := 38) rfl)) (hw _ (List.mem_of_getElem? (i := 39) rfl)) (hw _ (List.mem_of_getElem? (i := 41) rfl)) (hw _ (List.mem_of_getElem? (i := 42) rfl)) pd_1 rfl (by decide) (by decide) (by decide)) ?_
  refine allC_cons (s_aloadN d7_4 rfl) ?_
  refine allC_cons (s_aloadN d7_5 rfl) ?_
  refine allC_cons (s_putF (k := 5) (pos := 1) hX d7_6 (hw _ (List.mem_of_getElem? (i := 49) rfl)) Via.refl rfl rfl (lay5 a0 Z hw) nd5 (hw _ (List.mem_of_getElem? (i := 5) rfl)) (Or.inr ⟨(hw _ (List.mem_of_getElem? (i := 50) rfl)), rfl, rfl⟩)) ?_
  refine allC_cons (s_aloadN d7_9 rfl) ?_
  refine allC_cons (s_iloadN d7_10 rfl) ?_
  refine allC_cons (s_putF (k := 5) (pos := 2) hX d7_11 (hw _ (List.mem_of_getElem? (i := 51) rfl)) Via.refl rfl rfl (lay5 a0 Z hw) nd5 (hw _ (List.mem_of_getElem? (i := 5) rfl)) (Or.inr ⟨(hw _ (List.mem_of_getElem? (i := 52) rfl)), rfl, rfl⟩)) ?_
  refine allC_cons (s_aloadN d7_14 rfl) ?_
  refine allC_cons (s_lloadN d7_15 rfl) ?_
  refine allC_cons (s_putF (k := 5) (pos := 3) hX d7_16 (hw _ (List.mem_of_getElem? (i := 53) rfl)) Via.refl rfl rfl (lay5 a0 Z hw) nd5 (hw _ (List.mem_of_getElem? (i := 5) rfl)) (Or.inr ⟨(hw _ (List.mem_of_getElem? (i := 54) rfl)), rfl, rfl⟩)) ?_
  refine allC_cons (s_ret d7_19 rfl) ?_
  exact allC_nil
theorem pl7 : plainFor M7.1 = true := by first | exact plainFor_of_name (by first | (simp [M7, x, plainName, overriddenIn]; done) | decide +kernel) | decide +kernel
set_option maxRecDepth 65536 in
set_option maxHeartbeats 4000000 in
theorem snd8 (l : Launch) (a0 : Array Value) (Z : State) (hw : ∀ d ∈ tables_1, d.before a0 Z = true) (aS aI : Addr) (hXX : ∀ a ∈ [aS, aI], a < Z.heap.size) (sS : Sta Z Z.heap "com/example/mortise/mortise/Algorithm" "SHA_1" "Lcom/example/mortise/mortise/Algorithm;" (.ref aS)) (sI : Sta Z Z.heap "com/example/mortise/mortise/Sha1" "INITIAL_HASH" "[I" (.ref aI)): ∀ q ∈ c8, Sound Z [aS, aI] CT l MT M8 q.1 q.2 := by
  have hX : ∀ a ∈ ([aS, aI] : List Addr), a < Z.heap.size := hXX
  have hxl : ∀ i j, i ≠ j → (2 ≤ i ∨ 2 ≤ j) → ph Z [aS, aI] i ≠ ph Z [aS, aI] j := fun i j hij hi => ph_ne hX hij hi
  refine allC_mem (P := Sound Z [aS, aI] CT l MT M8) ?_
  unfold c8
  refine allC_cons (s_aloadN d8_0 rfl) ?_
  refine allC_cons (s_init0 d8_1 (hw _ (List.mem_of_getElem? (i := 43) rfl)) (hw _ (List.mem_of_getElem? (i := 44) rfl)) (hw _ (List.mem_of_getElem? (i := 45) rfl)) (by decide) (by decide)) ?_
  refine allC_cons (s_aloadN d8_4 rfl) ?_
  refine allC_cons (s_iconst d8_5 rfl) ?_
  refine allC_cons (s_newA (k := 1) d8_6 (hw _ (List.mem_of_getElem? (i := 46) rfl)) rfl rfl) ?_
  refine allC_cons (s_putF (k := 5) (pos := 0) hX d8_8 (hw _ (List.mem_of_getElem? (i := 47) rfl)) Via.refl rfl rfl (lay5 a0 Z hw) nd5 (hw _ (List.mem_of_getElem? (i := 5) rfl)) (Or.inr ⟨(hw _ (List.mem_of_getElem? (i := 48) rfl)), rfl, rfl⟩)) ?_
  refine allC_cons (s_ret d8_11 rfl) ?_
  exact allC_nil
theorem pl8 : plainFor M8.1 = true := by first | exact plainFor_of_name (by first | (simp [M8, x, plainName, overriddenIn]; done) | decide +kernel) | decide +kernel
set_option maxRecDepth 65536 in
set_option maxHeartbeats 4000000 in
theorem snd9 (l : Launch) (a0 : Array Value) (Z : State) (hw : ∀ d ∈ tables_1, d.before a0 Z = true) (aS aI : Addr) (hXX : ∀ a ∈ [aS, aI], a < Z.heap.size) (sS : Sta Z Z.heap "com/example/mortise/mortise/Algorithm" "SHA_1" "Lcom/example/mortise/mortise/Algorithm;" (.ref aS)) (sI : Sta Z Z.heap "com/example/mortise/mortise/Sha1" "INITIAL_HASH" "[I" (.ref aI)): ∀ q ∈ c9, Sound Z [aS, aI] CT l MT M9 q.1 q.2 := by
  have hX : ∀ a ∈ ([aS, aI] : List Addr), a < Z.heap.size := hXX
  have hxl : ∀ i j, i ≠ j → (2 ≤ i ∨ 2 ≤ j) → ph Z [aS, aI] i ≠ ph Z [aS, aI] j := fun i j hij hi => ph_ne hX hij hi
  refine allC_mem (P := Sound Z [aS, aI] CT l MT M9) ?_
  unfold c9
  refine allC_cons (s_aloadN d9_0 rfl) ?_
  refine allC_cons (s_getF (k := 5) (pos := 6) d9_1 (host := "") (Or.inl (hw _ (List.mem_of_getElem? (i := 59) rfl))) Via.refl rfl rfl) ?_
  refine allC_cons (s_iconst d9_4 rfl) ?_
  refine allC_cons (s_aloadN d9_5 rfl) ?_
  refine allC_cons (s_getF (k := 5) (pos := 7) d9_6 (host := "") (Or.inl (hw _ (List.mem_of_getElem? (i := 70) rfl))) Via.refl rfl rfl) ?_
  refine allC_cons (s_iconst d9_9 rfl) ?_
  refine allC_cons (s_aloadN d9_10 rfl) ?_
  refine allC_cons (s_getF (k := 5) (pos := 7) d9_11 (host := "") (Or.inl (hw _ (List.mem_of_getElem? (i := 70) rfl))) Via.refl rfl rfl) ?_
  refine allC_cons (s_alen (k := 0) d9_14 rfl) ?_
  refine allC_cons (s_copy (k := 0) hX d9_15 rfl rfl (hw _ (List.mem_of_getElem? (i := 83) rfl)) (hw _ (List.mem_of_getElem? (i := 86) rfl)) (hw _ (List.mem_of_getElem? (i := 84) rfl)) (hw _ (List.mem_of_getElem? (i := 85) rfl)) (by decide) (by decide)) ?_
  refine allC_cons (s_ret d9_18 rfl) ?_
  exact allC_nil
theorem pl9 : plainFor M9.1 = true := by first | exact plainFor_of_name (by first | (simp [M9, x, plainName, overriddenIn]; done) | decide +kernel) | decide +kernel
set_option maxRecDepth 65536 in
set_option maxHeartbeats 4000000 in
theorem snd10 (l : Launch) (a0 : Array Value) (Z : State) (hw : ∀ d ∈ tables_1, d.before a0 Z = true) (aS aI : Addr) (hXX : ∀ a ∈ [aS, aI], a < Z.heap.size) (sS : Sta Z Z.heap "com/example/mortise/mortise/Algorithm" "SHA_1" "Lcom/example/mortise/mortise/Algorithm;" (.ref aS)) (sI : Sta Z Z.heap "com/example/mortise/mortise/Sha1" "INITIAL_HASH" "[I" (.ref aI)): ∀ q ∈ c10, Sound Z [aS, aI] CT l MT M10 q.1 q.2 := by
  have hX : ∀ a ∈ ([aS, aI] : List Addr), a < Z.heap.size := hXX
  have hxl : ∀ i j, i ≠ j → (2 ≤ i ∨ 2 ≤ j) → ph Z [aS, aI] i ≠ ph Z [aS, aI] j := fun i j hij hi => ph_ne hX hij hi
  refine allC_mem (P := Sound Z [aS, aI] CT l MT M10) ?_
  unfold c10
  refine allC_cons (s_aloadN d10_0 rfl) ?_
  refine allC_cons (s_alen (k := 0) d10_1 rfl) ?_
  refine allC_cons (s_iconst d10_2 rfl) ?_
  refine allC_cons (s_icmp d10_3 (by decide) (by decide)) ?_
  refine allC_cons (s_aloadN d10_6 rfl) ?_
  refine allC_cons (s_iconst d10_7 rfl) ?_
  refine allC_cons (s_iaload (k := 0) d10_8 rfl) ?_
  refine allC_cons (s_ldcInt d10_9 (hw _ (List.mem_of_getElem? (i := 91) rfl))) ?_
  refine allC_cons (s_icmp d10_11 (by decide) (by decide)) ?_
  refine allC_cons (s_aloadN d10_14 rfl) ?_
  refine allC_cons (s_iconst d10_15 rfl) ?_
  refine allC_cons (s_iaload (k := 0) d10_16 rfl) ?_
  refine allC_cons (s_ldcInt d10_17 (hw _ (List.mem_of_getElem? (i := 92) rfl))) ?_
  refine allC_cons (s_icmp d10_19 (by decide) (by decide)) ?_
  refine allC_cons (s_aloadN d10_22 rfl) ?_
  refine allC_cons (s_iconst d10_23 rfl) ?_
  refine allC_cons (s_iaload (k := 0) d10_24 rfl) ?_
  refine allC_cons (s_ldcInt d10_25 (hw _ (List.mem_of_getElem? (i := 93) rfl))) ?_
  refine allC_cons (s_icmp d10_27 (by decide) (by decide)) ?_
  refine allC_cons (s_aloadN d10_30 rfl) ?_
  refine allC_cons (s_iconst d10_31 rfl) ?_
  refine allC_cons (s_iaload (k := 0) d10_32 rfl) ?_
  refine allC_cons (s_ldcInt d10_33 (hw _ (List.mem_of_getElem? (i := 94) rfl))) ?_
  refine allC_cons (s_icmp d10_35 (by decide) (by decide)) ?_
  refine allC_cons (s_aloadN d10_38 rfl) ?_
  refine allC_cons (s_iconst d10_39 rfl) ?_
  refine allC_cons (s_iaload (k := 0) d10_40 rfl) ?_
  refine allC_cons (s_ldcInt d10_41 (hw _ (List.mem_of_getElem? (i := 95) rfl))) ?_
  refine allC_cons (s_icmp d10_43 (by decide) (by decide)) ?_
  refine allC_cons (s_iconst d10_46 rfl) ?_
  refine allC_cons (s_goto d10_47 (by decide) (by decide)) ?_
  refine allC_cons (s_iconst d10_50 rfl) ?_
  refine allC_cons (s_retI d10_51 rfl (by simp)) ?_
  exact allC_nil
theorem pl10 : plainFor M10.1 = true := by first | exact plainFor_of_name (by first | (simp [M10, x, plainName, overriddenIn]; done) | decide +kernel) | decide +kernel
theorem hlen (l : Launch) (a0 : Array Value) (Z : State) (hw : ∀ d ∈ tables_1, d.before a0 Z = true) (aS aI : Addr) (hXX : ∀ a ∈ [aS, aI], a < Z.heap.size) (sS : Sta Z Z.heap "com/example/mortise/mortise/Algorithm" "SHA_1" "Lcom/example/mortise/mortise/Algorithm;" (.ref aS)) (sI : Sta Z Z.heap "com/example/mortise/mortise/Sha1" "INITIAL_HASH" "[I" (.ref aI)): ∀ (μ n : Nat) (code : List (Nat × MOp)), D[μ]? = some (n, code) → ∃ M, MT[μ]? = some M ∧ M.2.2.1 = n ∧ plainFor M.1 = true ∧ ∀ q ∈ code, Sound Z [aS, aI] CT l MT M q.1 q.2
  | 0, n, co, h => by
    obtain ⟨rfl, rfl⟩ := Prod.mk.inj (Option.some.inj (show some (10, c0) = some (n, co) from h))
    exact ⟨M0, rfl, rfl, pl0, snd0 l a0 Z hw aS aI hXX sS sI⟩
  | 1, n, co, h => by
    obtain ⟨rfl, rfl⟩ := Prod.mk.inj (Option.some.inj (show some (0, c1) = some (n, co) from h))
    exact ⟨M1, rfl, rfl, pl1, snd1 l a0 Z hw aS aI hXX sS sI⟩
  | 2, n, co, h => by
    obtain ⟨rfl, rfl⟩ := Prod.mk.inj (Option.some.inj (show some (1, c2) = some (n, co) from h))
    exact ⟨M2, rfl, rfl, pl2, snd2 l a0 Z hw aS aI hXX sS sI⟩
  | 3, n, co, h => by
    obtain ⟨rfl, rfl⟩ := Prod.mk.inj (Option.some.inj (show some (3, c3) = some (n, co) from h))
    exact ⟨M3, rfl, rfl, pl3, snd3 l a0 Z hw aS aI hXX sS sI⟩
  | 4, n, co, h => by
    obtain ⟨rfl, rfl⟩ := Prod.mk.inj (Option.some.inj (show some (4, c4) = some (n, co) from h))
    exact ⟨M4, rfl, rfl, pl4, snd4 l a0 Z hw aS aI hXX sS sI⟩
  | 5, n, co, h => by
    obtain ⟨rfl, rfl⟩ := Prod.mk.inj (Option.some.inj (show some (1, c5) = some (n, co) from h))
    exact ⟨M5, rfl, rfl, pl5, snd5 l a0 Z hw aS aI hXX sS sI⟩
  | 6, n, co, h => by
    obtain ⟨rfl, rfl⟩ := Prod.mk.inj (Option.some.inj (show some (5, c6) = some (n, co) from h))
    exact ⟨M6, rfl, rfl, pl6, snd6 l a0 Z hw aS aI hXX sS sI⟩
  | 7, n, co, h => by
    obtain ⟨rfl, rfl⟩ := Prod.mk.inj (Option.some.inj (show some (5, c7) = some (n, co) from h))
    exact ⟨M7, rfl, rfl, pl7, snd7 l a0 Z hw aS aI hXX sS sI⟩
  | 8, n, co, h => by
    obtain ⟨rfl, rfl⟩ := Prod.mk.inj (Option.some.inj (show some (1, c8) = some (n, co) from h))
    exact ⟨M8, rfl, rfl, pl8, snd8 l a0 Z hw aS aI hXX sS sI⟩
  | 9, n, co, h => by
    obtain ⟨rfl, rfl⟩ := Prod.mk.inj (Option.some.inj (show some (1, c9) = some (n, co) from h))
    exact ⟨M9, rfl, rfl, pl9, snd9 l a0 Z hw aS aI hXX sS sI⟩
  | 10, n, co, h => by
    obtain ⟨rfl, rfl⟩ := Prod.mk.inj (Option.some.inj (show some (1, c10) = some (n, co) from h))
    exact ⟨M10, rfl, rfl, pl10, snd10 l a0 Z hw aS aI hXX sS sI⟩
  | μ + 11, n, co, h => by simp [D] at h
end Snd
set_option maxRecDepth 65536 in
theorem mono0 : ∀ w ∈ c0, Mono w.2 := allC_mem (P := fun _ f => Mono f) ⟨mono_call _ _ _ _, mono_lift _, mono_lift _, (fun _ _ _ _ _ _ _ h => h), mono_lift _, mono_lift _, (fun _ _ _ _ _ _ _ h => h), mono_lift _, mono_lift _, mono_lift _, (fun _ _ _ _ _ _ _ h => h), mono_lift _, mono_lift _, mono_lift _, (fun _ _ _ _ _ _ _ h => h), mono_lift _, mono_lift _, mono_lift _, (fun _ _ _ _ _ _ _ h => h), mono_lift _, mono_lift _, mono_lift _, (fun _ _ _ _ _ _ _ h => h), mono_lift _, mono_lift _, mono_lift _, (fun _ _ _ _ _ _ _ h => h), mono_lift _, mono_lift _, mono_lift _, (fun _ _ _ _ _ _ _ h => h), mono_lift _, mono_callR _ _ _ _ _, mono_lift _, (fun _ _ _ _ _ _ _ h => h), mono_call _ _ _ _, mono_lift _, mono_lift _, mono_lift _, mono_lift _, (fun _ _ _ _ _ _ _ h => h), mono_lift _, mono_lift _, mono_lift _, mono_lift _, mono_lift _, (fun _ _ _ _ _ _ _ h => h), mono_lift _, mono_lift _, mono_lift _, mono_lift _, mono_lift _, (fun _ _ _ _ _ _ _ h => h), mono_lift _, mono_lift _, mono_lift _, mono_lift _, mono_lift _, (fun _ _ _ _ _ _ _ h => h), mono_lift _, mono_lift _, mono_lift _, mono_lift _, mono_lift _, (fun _ _ _ _ _ _ _ h => h), mono_lift _, mono_callR _ _ _ _ _, mono_lift _, (fun _ _ _ _ _ _ _ h => h), mono_call _ _ _ _, mono_lift _, mono_lift _, mono_lift _, mono_lift _, mono_lift _, mono_lift _, (fun _ _ _ _ _ _ _ h => h), mono_lift _, mono_lift _, mono_lift _, mono_lift _, mono_lift _, (fun _ _ _ _ _ _ _ h => h), trivial⟩
set_option maxRecDepth 65536 in
theorem mono1 : ∀ w ∈ c1, Mono w.2 := allC_mem (P := fun _ f => Mono f) ⟨(fun _ _ _ _ _ _ _ h => h), mono_lift _, mono_callR _ _ _ _ _, (fun _ _ _ _ _ _ _ h => h), trivial⟩
set_option maxRecDepth 65536 in
theorem mono2 : ∀ w ∈ c2, Mono w.2 := allC_mem (P := fun _ f => Mono f) ⟨mono_lift _, (fun _ _ _ _ _ _ _ h => h), (fun _ _ _ _ _ _ _ h => h), mono_callR _ _ _ _ _, mono_lift _, mono_lift _, (fun _ _ _ _ _ _ _ h => h), (fun _ _ _ _ _ _ _ h => h), (fun _ _ _ _ _ _ _ h => h), trivial⟩
set_option maxRecDepth 65536 in
theorem mono3 : ∀ w ∈ c3, Mono w.2 := allC_mem (P := fun _ f => Mono f) ⟨mono_lift _, mono_lift _, mono_lift _, mono_lift _, mono_callR _ _ _ _ _, mono_lift _, mono_lift _, (fun _ _ _ _ _ _ _ h => h), mono_lift _, mono_lift _, (fun _ _ _ _ _ _ _ h => h), (fun _ _ _ _ _ _ _ h => h), (fun _ _ _ _ _ _ _ h => h), (fun _ _ _ _ _ _ _ h => h), trivial⟩
set_option maxRecDepth 65536 in
theorem mono4 : ∀ w ∈ c4, Mono w.2 := allC_mem (P := fun _ f => Mono f) ⟨mono_lift _, mono_lift _, mono_lift _, mono_lift _, mono_call _ _ _ _, mono_callR _ _ _ _ _, mono_lift _, mono_lift _, (fun _ _ _ _ _ _ _ h => h), (fun _ _ _ _ _ _ _ h => h), mono_lift _, mono_lift _, (fun _ _ _ _ _ _ _ h => h), (fun _ _ _ _ _ _ _ h => h), trivial⟩
set_option maxRecDepth 65536 in
theorem mono5 : ∀ w ∈ c5, Mono w.2 := allC_mem (P := fun _ f => Mono f) ⟨mono_lift _, mono_lift _, mono_lift _, mono_lift _, mono_lift _, mono_lift _, (fun _ _ _ _ _ _ _ h => h), trivial⟩
set_option maxRecDepth 65536 in
theorem mono6 : ∀ w ∈ c6, Mono w.2 := allC_mem (P := fun _ f => Mono f) ⟨mono_lift _, mono_lift _, mono_lift _, mono_lift _, mono_callR _ _ _ _ _, (fun _ _ _ _ _ _ _ h => h), trivial⟩
set_option maxRecDepth 65536 in
theorem mono7 : ∀ w ∈ c7, Mono w.2 := allC_mem (P := fun _ f => Mono f) ⟨mono_lift _, mono_callR _ _ _ _ _, mono_lift _, mono_lift _, (fun _ _ _ _ _ _ _ h => h), mono_lift _, mono_lift _, (fun _ _ _ _ _ _ _ h => h), mono_lift _, mono_lift _, (fun _ _ _ _ _ _ _ h => h), (fun _ _ _ _ _ _ _ h => h), trivial⟩
set_option maxRecDepth 65536 in
theorem mono8 : ∀ w ∈ c8, Mono w.2 := allC_mem (P := fun _ f => Mono f) ⟨mono_lift _, (fun _ _ _ _ _ _ _ h => h), mono_lift _, mono_lift _, (fun _ _ _ _ _ _ _ h => h), (fun _ _ _ _ _ _ _ h => h), (fun _ _ _ _ _ _ _ h => h), trivial⟩
set_option maxRecDepth 65536 in
theorem mono9 : ∀ w ∈ c9, Mono w.2 := allC_mem (P := fun _ f => Mono f) ⟨mono_lift _, (fun _ _ _ _ _ _ _ h => h), mono_lift _, mono_lift _, (fun _ _ _ _ _ _ _ h => h), mono_lift _, mono_lift _, (fun _ _ _ _ _ _ _ h => h), (fun _ _ _ _ _ _ _ h => h), (fun _ _ _ _ _ _ _ h => h), (fun _ _ _ _ _ _ _ h => h), trivial⟩
set_option maxRecDepth 65536 in
theorem mono10 : ∀ w ∈ c10, Mono w.2 := allC_mem (P := fun _ f => Mono f) ⟨mono_lift _, (fun _ _ _ _ _ _ _ h => h), mono_lift _, mono_lift _, mono_lift _, mono_lift _, (fun _ _ _ _ _ _ _ h => h), mono_lift _, mono_lift _, mono_lift _, mono_lift _, (fun _ _ _ _ _ _ _ h => h), mono_lift _, mono_lift _, mono_lift _, mono_lift _, (fun _ _ _ _ _ _ _ h => h), mono_lift _, mono_lift _, mono_lift _, mono_lift _, (fun _ _ _ _ _ _ _ h => h), mono_lift _, mono_lift _, mono_lift _, mono_lift _, (fun _ _ _ _ _ _ _ h => h), mono_lift _, mono_lift _, mono_lift _, mono_lift _, mono_lift _, (fun _ _ _ _ _ _ _ h => h), trivial⟩
theorem monoD : ∀ q ∈ D, ∀ w ∈ q.2, Mono w.2 := allP_mem (α := Nat × List (Nat × MOp)) (xs := D) (P := fun q => ∀ w ∈ q.2, Mono w.2) ⟨mono0, mono1, mono2, mono3, mono4, mono5, mono6, mono7, mono8, mono9, mono10, trivial⟩
abbrev tb : List Value := [.int (1732584193), .int (-271733879), .int (-1732584194), .int (271733878), .int (-1009589776)]
theorem evSha : Eval D 1 [] H0 (some (.ref 2), Hs tb) := ⟨100, 9, by decide +kernel⟩
theorem evIni : Eval D 10 [.ref 5] (Hs tb) (some (.int 1), Hs tb) := ⟨100, 1, by decide +kernel⟩
theorem evReset (a b c d e : Int32) : Eval D 9 [.ref 2] (Hs [.int a, .int b, .int c, .int d, .int e]) (none, Hs tb) := by
  refine Eval.intro2 monoD [.val (.ref 2)] rfl (le_r rfl) rfl ?_
  iterate 10 (refine Go.step rfl (fun _ => rfl) ?_)
  exact Go.retE rfl (fun _ => rfl) rfl
theorem law_run (a b c d e f : Int32) : ∃ Hf, Eval D 0 [.int a, .int b, .int c, .int d, .int e, .int f] H0 (some (.int 1), Hf) ∧ Hf.length - H0.length ≤ 24 ∧ sz CT Hf - sz CT H0 ≤ 448 := by
  refine ⟨Hs tb, Eval.intro2 monoD [.val (.int a), .val (.int b), .val (.int c), .val (.int d), .val (.int e), .val (.int f), .unset, .unset, .unset, .unset] rfl (le_r rfl) rfl ?_, by decide, by decide⟩
  refine Go.scall monoD mono0 rfl (evSha) rfl rfl (le_r rfl) (le_r rfl) ?_
  iterate 29 (refine Go.step rfl (fun _ => rfl) ?_)
  refine Go.rcall monoD mono0 rfl (evReset a b c d e) rfl rfl rfl rfl (le_r rfl) ?_
  iterate 2 (refine Go.step rfl (fun _ => rfl) ?_)
  refine Go.scall monoD mono0 rfl (evIni) rfl rfl (le_r rfl) (le_r rfl) ?_
  iterate 30 (refine Go.step rfl (fun _ => rfl) ?_)
  refine Go.rcall monoD mono0 rfl (evReset f (a ^^^ f) (b + f) (c ^^^ -1) (d - e)) rfl rfl rfl rfl (le_r rfl) ?_
  iterate 2 (refine Go.step rfl (fun _ => rfl) ?_)
  refine Go.scall monoD mono0 rfl (evIni) rfl rfl (le_r rfl) (le_r rfl) ?_
  iterate 11 (refine Go.step rfl (fun _ => rfl) ?_)
  exact Go.retE rfl (fun _ => rfl) rfl
set_option maxRecDepth 65536 in
set_option maxHeartbeats 4000000 in
theorem comes_1 {Post : Tables → Env → Array Value → State → Outcome → State → Prop} (hpost : ∀ tb e args s v u, (limb_1_1.after args s (.returned v) u = true ∧ limb_1_2.after args s (.returned v) u = true ∧ True) → FrameEnd s (.returned v) u (Jvm.fieldLocs frame_1_writes args s ++ Jvm.arrayLocs frame_1_arrays args s ++ Jvm.staticLocs frame_1_statics s) 24 448 → Post tb e args s (.returned v) u) :
    ArmFor flags0 classFile x code maxLocals ret World_1 tables_1 room_1 Calls_1 rest_1 Pre_1 Post := by
  intro l hfl _ _ p e ha hc hk s m args below hf hA hF happ hP
  obtain ⟨hcalls, hrest, hpre⟩ := hP
  obtain ⟨-, -, -, hnamed, -, -, -, hat⟩ := (Spec.applies_iff hf).mp happ
  obtain ⟨hg, hn⟩ := and_e (Cond.before_iff.mp (show (Jvm.Cond.and given_1 narrow_1).before args s = true from hpre))
  obtain ⟨hcnt, hg⟩ := and_e hg
  obtain ⟨g0, hg⟩ := and_e hg
  obtain ⟨g1, hg⟩ := and_e hg
  obtain ⟨g2, hg⟩ := and_e hg
  obtain ⟨g3, hg⟩ := and_e hg
  obtain ⟨g4, hg⟩ := and_e hg
  have g5 := hg
  obtain ⟨w0, w1, w2, w3, w4, w5, rfl⟩ : ∃ w0 w1 w2 w3 w4 w5 : Value, args = #[w0, w1, w2, w3, w4, w5] := by
    have hs : args.size = 6 := by simpa [Cond.value, given_1] using hcnt
    obtain ⟨L⟩ := args
    match L, hs with
    | [w0, w1, w2, w3, w4, w5], _ => exact ⟨w0, w1, w2, w3, w4, w5, rfl⟩
  have hw := fun d (hd : d ∈ tables_1) => atoms_spec (ws := Jvm.Cond.code x code maxLocals ret :: tables_1) hat d (List.mem_cons_of_mem _ hd)
  obtain ⟨i0, e0⟩ := is_v g0
  obtain rfl : w0 = (.int i0) := Option.some.inj e0
  obtain ⟨i1, e1⟩ := is_v g1
  obtain rfl : w1 = (.int i1) := Option.some.inj e1
  obtain ⟨i2, e2⟩ := is_v g2
  obtain rfl : w2 = (.int i2) := Option.some.inj e2
  obtain ⟨i3, e3⟩ := is_v g3
  obtain rfl : w3 = (.int i3) := Option.some.inj e3
  obtain ⟨i4, e4⟩ := is_v g4
  obtain rfl : w4 = (.int i4) := Option.some.inj e4
  obtain ⟨i5, e5⟩ := is_v g5
  obtain rfl : w5 = (.int i5) := Option.some.inj e5
  obtain ⟨nS, hn⟩ := and_e hn
  obtain ⟨nR, hn⟩ := and_e hn
  obtain ⟨nX, hn⟩ := and_e hn
  obtain ⟨nL, hn⟩ := and_e hn
  obtain ⟨n0, hn⟩ := and_e hn
  obtain ⟨n1, hn⟩ := and_e hn
  obtain ⟨n2, hn⟩ := and_e hn
  obtain ⟨n3, n4⟩ := and_e hn
  obtain ⟨aS, tS⟩ := exa_v nS
  have xS := Exa.start tS nS
  obtain ⟨aI, tI⟩ := exa_v nX
  have xI := Exa.start tI nX
  obtain ⟨cI, AI⟩ := Arr.start tI nR
  have sS := Sta.start tS (Or.inr ⟨(hw _ (List.mem_of_getElem? (i := 10) rfl)), (hw _ (List.mem_of_getElem? (i := 11) rfl))⟩)
  have sI := Sta.start tI (Or.inr ⟨(hw _ (List.mem_of_getElem? (i := 2) rfl)), (hw _ (List.mem_of_getElem? (i := 13) rfl))⟩)
  have zL := len_of_eq tI AI nL
  have z0 := el_of_eq tI AI n0
  have z1 := el_of_eq tI AI n1
  have z2 := el_of_eq tI AI n2
  have z3 := el_of_eq tI AI n3
  have z4 := el_of_eq tI AI n4
  have hXX : ∀ a ∈ [aS, aI], a < s.heap.size := by
    intro a ha
    simp only [List.mem_cons, List.not_mem_nil, or_false] at ha
    rcases ha with rfl | rfl
    · exact xS.lt
    · exact xI.lt
  have hsl : cI.slots = #[.int (1732584193), .int (-271733879), .int (-1732584194), .int (271733878), .int (-1009589776)] := slots5 zL z0 z1 z2 z3 z4
  have hrep : Rep s [aS, aI] CT s.heap H0 := by
    refine ⟨Nat.le_refl _, by simp [H0], fun _ _ => rfl, fun i k vs h => ?_⟩
    match i, h with
    | 0, h => cases h; exact ⟨xS, rfl, fun j _ _ _ _ _ h1 _ => by simp at h1⟩
    | 1, h => cases h; exact ⟨cI, AI, hsl, fun _ => xI, fun _ C hC => by cases hC⟩
    | i + 2, h => simp [H0] at h
  obtain ⟨Hf, hE, hC, hS⟩ := law_run i0 i1 i2 i3 i4 i5
  obtain ⟨n, o, h1, h2, h3, _, L, rfl, ⟨rfl, N, -⟩, hq⟩ := top_met (M := M0) (hlen l _ s hw aS aI hXX sS sI) hE rfl (R := room_1) (ws := tables_1) (by decide) (by decide) hC hS hrep p e ha hc hk s m _ below hf ((Spec.applies_iff_loose hf).mp happ).1 ⟨rfl, State.Warmed39.refl s, rfl⟩ trivial
  refine ⟨n, _, h1, h2, h3, hpost _ _ _ _ _ _ ⟨Cond.after_iff.mpr rfl, Cond.after_iff.mpr (eq_i res_at (Term.int_eval (1)) rfl), trivial⟩ ⟨hq.1, hq.2.1, (hq.2.2.sift fun y hy => Or.inr (N y hy)).mono hC hS⟩⟩
theorem main_1_1 : Claimed_1_1 := comes_1 fun _ _ _ _ _ _ h hF => ⟨h.1, hF⟩
theorem main_1_2 : Claimed_1_2 := comes_1 fun _ _ _ _ _ _ h hF => ⟨h.2.1, hF⟩
end Jvm.Pilot.@@N@@
namespace Jvm.Pilot.@@N@@
open Jvm Jvm.ClassFile Sem Op Lib Jvm.Free Jvm.Stand Jvm.Pilot.@@N@@.Jvm.D
/-! MADE BY PROGRAM (witnessworld.py) out of the Statement's table words and the real class files: 19 classes; the members and pool entries that the words name. The judged class is class 1, her method 1. -/
namespace start1
open Jvm.ClassFile
def u (s : String) : CpInfo := .utf8 (stringToUtf16 s)
/-- a pool by its gaps: so many unusable entries, then the entry; so many at the end -/
def gap : Nat → List CpInfo → List CpInfo
  | 0, r => r
  | n + 1, r => .unusable :: gap n r
def poolList (es : List (Nat × CpInfo)) (last : Nat) : List CpInfo := es.foldr (fun e r => gap e.1 (e.2 :: r)) (gap last [])
def pool (es : List (Nat × CpInfo)) (last : Nat) : Array CpInfo := ⟨poolList es last⟩
def fileOf (pool : Array CpInfo) (this : Nat) (attrs : Array Attribute := #[]) (ms : Array MethodInfo := #[]) (fl : Nat := 33) (sup : Nat := 0) (ifs : Array Nat := #[]) (fds : Array FieldInfo := #[]) : ClassFile where
  minorVersion := 0
  majorVersion := 65
  constantPool := pool
  accessFlags := fl
  thisClass := this
  superClass := sup
  interfaces := ifs
  fields := fds
  methods := ms
  attributes := attrs
def plain (name : String) (sup : Option ClassId) : Class where
  name := name
  kind := .ordinary
  loader := none
  accessFlags := 33
  super := sup
  interfaces := #[]
  cf := none
  fields := #[]
  methods := #[]
  instanceTypes := #[]
  staticTypes := #[]
  resolved := #[]
  callSites := []
  init := .initialized
  statics := none
  mirror := none

def pool0 : Array CpInfo := pool [(5, u "<init>"), (0, u "()V"), (1, .class_ 10), (1, u "java/lang/Object"), (85, u "clone"), (0, u "()Ljava/lang/Object;")] 26

def k0c0 : Code := { maxStack := 0, maxLocals := 1, code := object_method_1_code, exceptionTable := #[], attributes := #[] }
def k0m0 : Method := { name := "<init>", desc := "()V", sig := { parameters := [], returnType := none }, accessFlags := 1, code := some k0c0 }
def k0m1 : Method := { name := "clone", desc := "()Ljava/lang/Object;", sig := { parameters := [], returnType := some (.object "java/lang/Object") }, accessFlags := 260, code := none }
/-- java/lang/Object -/
def k0 : Class := { plain "java/lang/Object" none with
  accessFlags := 33
  interfaces := #[]
  cf := some (fileOf pool0 8 #[] #[{ accessFlags := 1, nameIndex := 5, descriptorIndex := 6, attributes := #[] }, { accessFlags := 260, nameIndex := 96, descriptorIndex := 97, attributes := #[] }] 33 0 #[] #[])
  fields := #[]
  methods := #[k0m0, k0m1]
  instanceTypes := #[]
  staticTypes := #[]
  resolved := Array.replicate 124 none
  statics := none }

def pool1 : Array CpInfo := pool [(2, .class_ 4), (1, u "java/lang/Object"), (0, u "<init>"), (0, u "()V"), (0, .methodref 8 9), (0, .class_ 10), (0, .nameAndType 11 12), (0, u "com/example/mortise/mortise/Sha1"), (0, u "sha1"), (0, u "()Lcom/example/mortise/mortise/Sha1;"), (0, .fieldref 8 14), (0, .nameAndType 15 16), (0, u "hash"), (0, u "[I"), (0, .methodref 8 18), (0, .nameAndType 19 6), (0, u "resetHash"), (0, .methodref 21 22), (0, .class_ 23), (0, .nameAndType 24 25), (0, u "com/example/mortise/mortise/Word32DigestResetHashPinLaw"), (0, u "isInitial"), (0, u "([I)Z"), (0, .integer 1732584193), (0, .integer 4023233417), (0, .integer 2562383102), (0, .integer 271733878), (0, .integer 3285377520), (2, u "law"), (0, u "(IIIIII)Z")] 4

def k1m0 : Method := { name := "<init>", desc := "()V", sig := { parameters := [], returnType := none }, accessFlags := 1, code := none }
def k1c1 : Code := { maxStack := 4, maxLocals := 10, code := code, exceptionTable := #[], attributes := #[] }
def k1m1 : Method := { name := "law", desc := "(IIIIII)Z", sig := { parameters := [.int, .int, .int, .int, .int, .int], returnType := some .boolean }, accessFlags := 9, code := some k1c1 }
def k1c2 : Code := { maxStack := 2, maxLocals := 1, code := method_3_code, exceptionTable := #[], attributes := #[] }
def k1m2 : Method := { name := "isInitial", desc := "([I)Z", sig := { parameters := [(.array .int)], returnType := some .boolean }, accessFlags := 10, code := some k1c2 }
/-- com/example/mortise/mortise/Word32DigestResetHashPinLaw -/
def k1 : Class := { plain "com/example/mortise/mortise/Word32DigestResetHashPinLaw" (some 0) with
  accessFlags := 49
  interfaces := #[]
  cf := some (fileOf pool1 21 #[] #[{ accessFlags := 1, nameIndex := 5, descriptorIndex := 6, attributes := #[] }, { accessFlags := 9, nameIndex := 33, descriptorIndex := 34, attributes := #[] }, { accessFlags := 10, nameIndex := 24, descriptorIndex := 25, attributes := #[] }] 49 2 #[] #[])
  fields := #[]
  methods := #[k1m0, k1m1, k1m2]
  instanceTypes := #[]
  staticTypes := #[]
  resolved := Array.replicate 39 none
  statics := none }

def pool2 : Array CpInfo := pool [(1, .methodref 2 3), (0, .class_ 4), (0, .nameAndType 5 6), (0, u "java/lang/Object"), (0, u "<init>"), (0, u "()V"), (0, .fieldref 8 9), (0, .class_ 10), (0, .nameAndType 11 12), (0, u "com/example/mortise/mortise/RunningHash"), (0, u "oneByte"), (0, u "[B"), (171, u "CHUNK_BYTES"), (0, u "I")] 49

def k2c0 : Code := { maxStack := 2, maxLocals := 1, code := prog_52_method_1_code, exceptionTable := #[], attributes := #[] }
def k2m0 : Method := { name := "<init>", desc := "()V", sig := { parameters := [], returnType := none }, accessFlags := 0, code := some k2c0 }
/-- com/example/mortise/mortise/RunningHash -/
def k2 : Class := { plain "com/example/mortise/mortise/RunningHash" (some 0) with
  accessFlags := 1057
  interfaces := #[]
  cf := some (fileOf pool2 8 #[] #[{ accessFlags := 0, nameIndex := 5, descriptorIndex := 6, attributes := #[] }] 1057 2 #[] #[{ accessFlags := 26, nameIndex := 184, descriptorIndex := 185, attributes := #[] }, { accessFlags := 18, nameIndex := 11, descriptorIndex := 12, attributes := #[] }])
  fields := #[{ name := "CHUNK_BYTES", type := .int, accessFlags := 26, slot := 0, constantValue := 0 }, { name := "oneByte", type := (.array .byte), accessFlags := 18, slot := 0, constantValue := 0 }]
  methods := #[k2m0]
  instanceTypes := #[(.array .byte)]
  staticTypes := #[.int]
  resolved := Array.replicate 235 none
  statics := none }

def pool3 : Array CpInfo := pool [(1, .methodref 2 3), (0, .class_ 4), (0, .nameAndType 5 6), (0, u "com/example/mortise/mortise/RunningHash"), (0, u "<init>"), (0, u "()V"), (0, .fieldref 8 9), (0, .class_ 10), (0, .nameAndType 11 12), (0, u "com/example/mortise/mortise/Digest"), (0, u "algorithm"), (0, u "Lcom/example/mortise/mortise/Algorithm;"), (0, .fieldref 8 14), (0, .nameAndType 15 16), (0, u "blockBytes"), (0, u "I"), (0, .fieldref 8 18), (0, .nameAndType 19 20), (0, u "maxMessageBytes"), (0, u "J"), (2, u "messageBytes"), (19, u "(Lcom/example/mortise/mortise/Algorithm;IJ)V")] 30

def k3c0 : Code := { maxStack := 3, maxLocals := 5, code := prog_47_method_1_code, exceptionTable := #[], attributes := #[] }
def k3m0 : Method := { name := "<init>", desc := "(Lcom/example/mortise/mortise/Algorithm;IJ)V", sig := { parameters := [(.object "com/example/mortise/mortise/Algorithm"), .int, .long], returnType := none }, accessFlags := 0, code := some k3c0 }
/-- com/example/mortise/mortise/Digest -/
def k3 : Class := { plain "com/example/mortise/mortise/Digest" (some 2) with
  accessFlags := 1057
  interfaces := #[]
  cf := some (fileOf pool3 8 #[] #[{ accessFlags := 0, nameIndex := 5, descriptorIndex := 43, attributes := #[] }] 1057 2 #[] #[{ accessFlags := 18, nameIndex := 11, descriptorIndex := 12, attributes := #[] }, { accessFlags := 18, nameIndex := 15, descriptorIndex := 16, attributes := #[] }, { accessFlags := 18, nameIndex := 19, descriptorIndex := 20, attributes := #[] }, { accessFlags := 2, nameIndex := 23, descriptorIndex := 20, attributes := #[] }])
  fields := #[{ name := "algorithm", type := (.object "com/example/mortise/mortise/Algorithm"), accessFlags := 18, slot := 1, constantValue := 0 }, { name := "blockBytes", type := .int, accessFlags := 18, slot := 2, constantValue := 0 }, { name := "maxMessageBytes", type := .long, accessFlags := 18, slot := 3, constantValue := 0 }, { name := "messageBytes", type := .long, accessFlags := 2, slot := 4, constantValue := 0 }]
  methods := #[k3m0]
  instanceTypes := #[(.array .byte), (.object "com/example/mortise/mortise/Algorithm"), .int, .long, .long]
  staticTypes := #[]
  resolved := Array.replicate 74 none
  statics := none }

def pool4 : Array CpInfo := pool [(1, .methodref 2 3), (0, .class_ 4), (0, .nameAndType 5 6), (0, u "com/example/mortise/mortise/Digest"), (0, u "<init>"), (0, u "(Lcom/example/mortise/mortise/Algorithm;IJ)V"), (32, .class_ 41), (1, u "com/example/mortise/mortise/ResumableDigest")] 50

def k4c0 : Code := { maxStack := 5, maxLocals := 5, code := prog_51_method_1_code, exceptionTable := #[], attributes := #[] }
def k4m0 : Method := { name := "<init>", desc := "(Lcom/example/mortise/mortise/Algorithm;IJ)V", sig := { parameters := [(.object "com/example/mortise/mortise/Algorithm"), .int, .long], returnType := none }, accessFlags := 0, code := some k4c0 }
/-- com/example/mortise/mortise/ResumableDigest -/
def k4 : Class := { plain "com/example/mortise/mortise/ResumableDigest" (some 3) with
  accessFlags := 1057
  interfaces := #[]
  cf := some (fileOf pool4 39 #[] #[{ accessFlags := 0, nameIndex := 5, descriptorIndex := 6, attributes := #[] }] 1057 2 #[] #[])
  fields := #[]
  methods := #[k4m0]
  instanceTypes := #[(.array .byte), (.object "com/example/mortise/mortise/Algorithm"), .int, .long, .long]
  staticTypes := #[]
  resolved := Array.replicate 92 none
  statics := none }

def pool5 : Array CpInfo := pool [(1, .methodref 2 3), (0, .class_ 4), (0, .nameAndType 5 6), (0, u "com/example/mortise/mortise/BlockDigest"), (0, u "maxMessageBytes"), (0, u "(I)J"), (0, .methodref 8 9), (0, .class_ 10), (0, .nameAndType 11 12), (0, u "com/example/mortise/mortise/ResumableDigest"), (0, u "<init>"), (0, u "(Lcom/example/mortise/mortise/Algorithm;IJ)V"), (0, .fieldref 2 14), (0, .nameAndType 15 16), (0, u "pending"), (0, u "[B"), (0, .fieldref 2 18), (0, .nameAndType 19 20), (0, u "lengthFieldBytes"), (0, u "I"), (2, .long 2305843009213693951), (1, .long 9223372036854775807), (3, u "lastBits"), (10, u "pendingBytes"), (20, u "lastByte"), (0, u "B"), (12, u "LONG_BIG_ENDIAN"), (0, u "Ljava/lang/invoke/VarHandle;"), (106, u "INT_BIG_ENDIAN"), (2, u "(Lcom/example/mortise/mortise/Algorithm;II)V")] 27

def k5c0 : Code := { maxStack := 5, maxLocals := 4, code := prog_45_method_1_code, exceptionTable := #[], attributes := #[] }
def k5m0 : Method := { name := "<init>", desc := "(Lcom/example/mortise/mortise/Algorithm;II)V", sig := { parameters := [(.object "com/example/mortise/mortise/Algorithm"), .int, .int], returnType := none }, accessFlags := 0, code := some k5c0 }
def k5c1 : Code := { maxStack := 2, maxLocals := 1, code := prog_45_method_2_code, exceptionTable := #[], attributes := #[] }
def k5m1 : Method := { name := "maxMessageBytes", desc := "(I)J", sig := { parameters := [.int], returnType := some .long }, accessFlags := 10, code := some k5c1 }
/-- com/example/mortise/mortise/BlockDigest -/
def k5 : Class := { plain "com/example/mortise/mortise/BlockDigest" (some 4) with
  accessFlags := 1056
  interfaces := #[]
  cf := some (fileOf pool5 2 #[] #[{ accessFlags := 0, nameIndex := 11, descriptorIndex := 186, attributes := #[] }, { accessFlags := 10, nameIndex := 5, descriptorIndex := 6, attributes := #[] }] 1056 8 #[] #[{ accessFlags := 24, nameIndex := 183, descriptorIndex := 76, attributes := #[] }, { accessFlags := 24, nameIndex := 75, descriptorIndex := 76, attributes := #[] }, { accessFlags := 18, nameIndex := 19, descriptorIndex := 20, attributes := #[] }, { accessFlags := 18, nameIndex := 15, descriptorIndex := 16, attributes := #[] }, { accessFlags := 2, nameIndex := 40, descriptorIndex := 20, attributes := #[] }, { accessFlags := 2, nameIndex := 29, descriptorIndex := 20, attributes := #[] }, { accessFlags := 2, nameIndex := 61, descriptorIndex := 62, attributes := #[] }])
  fields := #[{ name := "INT_BIG_ENDIAN", type := (.object "java/lang/invoke/VarHandle"), accessFlags := 24, slot := 0, constantValue := 0 }, { name := "LONG_BIG_ENDIAN", type := (.object "java/lang/invoke/VarHandle"), accessFlags := 24, slot := 1, constantValue := 0 }, { name := "lengthFieldBytes", type := .int, accessFlags := 18, slot := 5, constantValue := 0 }, { name := "pending", type := (.array .byte), accessFlags := 18, slot := 6, constantValue := 0 }, { name := "pendingBytes", type := .int, accessFlags := 2, slot := 7, constantValue := 0 }, { name := "lastBits", type := .int, accessFlags := 2, slot := 8, constantValue := 0 }, { name := "lastByte", type := .byte, accessFlags := 2, slot := 9, constantValue := 0 }]
  methods := #[k5m0, k5m1]
  instanceTypes := #[(.array .byte), (.object "com/example/mortise/mortise/Algorithm"), .int, .long, .long, .int, (.array .byte), .int, .int, .byte]
  staticTypes := #[(.object "java/lang/invoke/VarHandle"), (.object "java/lang/invoke/VarHandle")]
  resolved := Array.replicate 214 none
  statics := none }

def pool6 : Array CpInfo := pool [(1, .class_ 2), (0, u "com/example/mortise/mortise/Word32Digest"), (0, .methodref 4 5), (0, .class_ 6), (0, .nameAndType 7 8), (0, u "com/example/mortise/mortise/BlockDigest"), (0, u "<init>"), (0, u "(Lcom/example/mortise/mortise/Algorithm;II)V"), (0, .fieldref 1 10), (0, .nameAndType 11 12), (0, u "initialHash"), (0, u "[I"), (0, .methodref 14 15), (0, .class_ 12), (0, .nameAndType 16 17), (0, u "clone"), (0, u "()Ljava/lang/Object;"), (0, .fieldref 1 19), (0, .nameAndType 20 12), (0, u "hash"), (12, .methodref 34 35), (0, .class_ 36), (0, .nameAndType 37 38), (0, u "java/lang/System"), (0, u "arraycopy"), (0, u "(Ljava/lang/Object;ILjava/lang/Object;II)V"), (4, u "BLOCK_BYTES"), (0, u "I"), (2, u "LENGTH_FIELD_BYTES"), (1, u "(Lcom/example/mortise/mortise/Algorithm;[I)V"), (5, u "resetHash"), (0, u "()V")] 7

def k6c0 : Code := { maxStack := 4, maxLocals := 3, code := prog_57_method_1_code, exceptionTable := #[], attributes := #[] }
def k6m0 : Method := { name := "<init>", desc := "(Lcom/example/mortise/mortise/Algorithm;[I)V", sig := { parameters := [(.object "com/example/mortise/mortise/Algorithm"), (.array .int)], returnType := none }, accessFlags := 0, code := some k6c0 }
def k6c1 : Code := { maxStack := 5, maxLocals := 1, code := prog_57_method_3_code, exceptionTable := #[], attributes := #[] }
def k6m1 : Method := { name := "resetHash", desc := "()V", sig := { parameters := [], returnType := none }, accessFlags := 16, code := some k6c1 }
/-- com/example/mortise/mortise/Word32Digest -/
def k6 : Class := { plain "com/example/mortise/mortise/Word32Digest" (some 5) with
  accessFlags := 1056
  interfaces := #[]
  cf := some (fileOf pool6 1 #[] #[{ accessFlags := 0, nameIndex := 7, descriptorIndex := 49, attributes := #[] }, { accessFlags := 16, nameIndex := 55, descriptorIndex := 56, attributes := #[] }] 1056 4 #[] #[{ accessFlags := 26, nameIndex := 43, descriptorIndex := 44, attributes := #[] }, { accessFlags := 26, nameIndex := 47, descriptorIndex := 44, attributes := #[] }, { accessFlags := 18, nameIndex := 11, descriptorIndex := 12, attributes := #[] }, { accessFlags := 16, nameIndex := 20, descriptorIndex := 12, attributes := #[] }])
  fields := #[{ name := "BLOCK_BYTES", type := .int, accessFlags := 26, slot := 0, constantValue := 0 }, { name := "LENGTH_FIELD_BYTES", type := .int, accessFlags := 26, slot := 1, constantValue := 0 }, { name := "initialHash", type := (.array .int), accessFlags := 18, slot := 10, constantValue := 0 }, { name := "hash", type := (.array .int), accessFlags := 16, slot := 11, constantValue := 0 }]
  methods := #[k6m0, k6m1]
  instanceTypes := #[(.array .byte), (.object "com/example/mortise/mortise/Algorithm"), .int, .long, .long, .int, (.array .byte), .int, .int, .byte, (.array .int), (.array .int)]
  staticTypes := #[.int, .int]
  resolved := Array.replicate 64 none
  statics := none }

def pool7 : Array CpInfo := pool [(1, .fieldref 2 3), (0, .class_ 4), (0, .nameAndType 5 6), (0, u "com/example/mortise/mortise/Algorithm"), (0, u "SHA_1"), (0, u "Lcom/example/mortise/mortise/Algorithm;"), (0, .fieldref 8 9), (0, .class_ 10), (0, .nameAndType 11 12), (0, u "com/example/mortise/mortise/Sha1"), (0, u "INITIAL_HASH"), (0, u "[I"), (0, .methodref 14 15), (0, .class_ 16), (0, .nameAndType 17 18), (0, u "com/example/mortise/mortise/Word32Digest"), (0, u "<init>"), (0, u "(Lcom/example/mortise/mortise/Algorithm;[I)V"), (0, .fieldref 8 20), (0, .nameAndType 21 12), (0, u "schedule"), (0, .methodref 8 23), (0, .nameAndType 17 24), (0, u "()V"), (15, u "K"), (11, u "sha1"), (0, u "()Lcom/example/mortise/mortise/Sha1;")] 9

def k7c0 : Code := { maxStack := 3, maxLocals := 1, code := prog_54_method_1_code, exceptionTable := #[], attributes := #[] }
def k7m0 : Method := { name := "<init>", desc := "()V", sig := { parameters := [], returnType := none }, accessFlags := 2, code := some k7c0 }
def k7c1 : Code := { maxStack := 2, maxLocals := 0, code := prog_54_method_2_code, exceptionTable := #[], attributes := #[] }
def k7m1 : Method := { name := "sha1", desc := "()Lcom/example/mortise/mortise/Sha1;", sig := { parameters := [], returnType := some (.object "com/example/mortise/mortise/Sha1") }, accessFlags := 8, code := some k7c1 }
/-- com/example/mortise/mortise/Sha1 -/
def k7 : Class := { plain "com/example/mortise/mortise/Sha1" (some 6) with
  accessFlags := 48
  interfaces := #[]
  cf := some (fileOf pool7 8 #[] #[{ accessFlags := 2, nameIndex := 17, descriptorIndex := 24, attributes := #[] }, { accessFlags := 8, nameIndex := 52, descriptorIndex := 53, attributes := #[] }] 48 14 #[] #[{ accessFlags := 26, nameIndex := 11, descriptorIndex := 12, attributes := #[] }, { accessFlags := 26, nameIndex := 40, descriptorIndex := 12, attributes := #[] }, { accessFlags := 18, nameIndex := 21, descriptorIndex := 12, attributes := #[] }])
  fields := #[{ name := "INITIAL_HASH", type := (.array .int), accessFlags := 26, slot := 0, constantValue := 0 }, { name := "K", type := (.array .int), accessFlags := 26, slot := 1, constantValue := 0 }, { name := "schedule", type := (.array .int), accessFlags := 18, slot := 12, constantValue := 0 }]
  methods := #[k7m0, k7m1]
  instanceTypes := #[(.array .byte), (.object "com/example/mortise/mortise/Algorithm"), .int, .long, .long, .int, (.array .byte), .int, .int, .byte, (.array .int), (.array .int), (.array .int)]
  staticTypes := #[(.array .int), (.array .int)]
  resolved := Array.replicate 63 none
  statics := some 0 }

def pool8 : Array CpInfo := pool [(1, .class_ 2), (0, u "java/lang/constant/Constable"), (0, .class_ 4), (0, u "java/lang/Object")] 6

/-- java/lang/constant/Constable -/
def k8 : Class := { plain "java/lang/constant/Constable" (some 0) with
  accessFlags := 1537
  interfaces := #[]
  cf := some (fileOf pool8 1 #[] #[] 1537 3 #[] #[])
  fields := #[]
  methods := #[]
  instanceTypes := #[]
  staticTypes := #[]
  resolved := Array.replicate 11 none
  statics := none }

def pool9 : Array CpInfo := pool [(1, .class_ 2), (0, u "java/lang/Comparable"), (0, .class_ 4), (0, u "java/lang/Object")] 7

/-- java/lang/Comparable -/
def k9 : Class := { plain "java/lang/Comparable" (some 0) with
  accessFlags := 1537
  interfaces := #[]
  cf := some (fileOf pool9 1 #[] #[] 1537 3 #[] #[])
  fields := #[]
  methods := #[]
  instanceTypes := #[]
  staticTypes := #[]
  resolved := Array.replicate 12 none
  statics := none }

def pool10 : Array CpInfo := pool [(1, .class_ 2), (0, u "java/io/Serializable"), (0, .class_ 4), (0, u "java/lang/Object")] 2

/-- java/io/Serializable -/
def k10 : Class := { plain "java/io/Serializable" (some 0) with
  accessFlags := 1537
  interfaces := #[]
  cf := some (fileOf pool10 1 #[] #[] 1537 3 #[] #[])
  fields := #[]
  methods := #[]
  instanceTypes := #[]
  staticTypes := #[]
  resolved := Array.replicate 7 none
  statics := none }

def pool11 : Array CpInfo := pool [(2, .class_ 4), (1, u "java/lang/Enum"), (0, u "name"), (0, u "Ljava/lang/String;"), (2, u "ordinal"), (0, u "I"), (1, .class_ 14), (1, u "java/lang/Object"), (4, u "hash"), (86, .class_ 108), (1, u "java/lang/Enum$EnumDesc"), (2, .class_ 112), (0, u "java/lang/constant/Constable"), (0, .class_ 114), (0, u "java/lang/Comparable"), (0, .class_ 116), (0, u "java/io/Serializable")] 87

/-- java/lang/Enum -/
def k11 : Class := { plain "java/lang/Enum" (some 0) with
  accessFlags := 1057
  interfaces := #[8, 9, 10]
  cf := some (fileOf pool11 2 #[.nestMembers #[106]] #[] 1057 12 #[111, 113, 115] #[{ accessFlags := 18, nameIndex := 5, descriptorIndex := 6, attributes := #[] }, { accessFlags := 18, nameIndex := 9, descriptorIndex := 10, attributes := #[] }, { accessFlags := 2, nameIndex := 19, descriptorIndex := 10, attributes := #[] }])
  fields := #[{ name := "name", type := (.object "java/lang/String"), accessFlags := 18, slot := 0, constantValue := 0 }, { name := "ordinal", type := .int, accessFlags := 18, slot := 1, constantValue := 0 }, { name := "hash", type := .int, accessFlags := 2, slot := 2, constantValue := 0 }]
  methods := #[]
  instanceTypes := #[(.object "java/lang/String"), .int, .int]
  staticTypes := #[]
  resolved := Array.replicate 204 none
  statics := none }

def pool12 : Array CpInfo := pool [(1, .class_ 2), (0, u "com/example/mortise/mortise/Algorithm"), (2, u "SHA_1"), (0, u "Lcom/example/mortise/mortise/Algorithm;"), (2, u "SHA_224"), (2, u "SHA_256"), (2, u "SHA_384"), (2, u "SHA_512"), (2, u "SHA_512_224"), (2, u "SHA_512_256"), (2, u "$VALUES"), (0, u "[Lcom/example/mortise/mortise/Algorithm;"), (6, .class_ 37), (1, u "java/lang/Enum"), (8, u "standardName"), (0, u "Ljava/lang/String;"), (2, u "commandName"), (2, u "digestLength"), (0, u "I"), (2, u "engines"), (0, u "Ljava/util/function/Supplier;"), (46, u "digests")] 203

/-- com/example/mortise/mortise/Algorithm -/
def k12 : Class := { plain "com/example/mortise/mortise/Algorithm" (some 11) with
  accessFlags := 16433
  interfaces := #[]
  cf := some (fileOf pool12 1 #[] #[] 16433 35 #[] #[{ accessFlags := 16409, nameIndex := 5, descriptorIndex := 6, attributes := #[] }, { accessFlags := 16409, nameIndex := 9, descriptorIndex := 6, attributes := #[] }, { accessFlags := 16409, nameIndex := 12, descriptorIndex := 6, attributes := #[] }, { accessFlags := 16409, nameIndex := 15, descriptorIndex := 6, attributes := #[] }, { accessFlags := 16409, nameIndex := 18, descriptorIndex := 6, attributes := #[] }, { accessFlags := 16409, nameIndex := 21, descriptorIndex := 6, attributes := #[] }, { accessFlags := 16409, nameIndex := 24, descriptorIndex := 6, attributes := #[] }, { accessFlags := 18, nameIndex := 46, descriptorIndex := 47, attributes := #[] }, { accessFlags := 18, nameIndex := 50, descriptorIndex := 47, attributes := #[] }, { accessFlags := 18, nameIndex := 53, descriptorIndex := 54, attributes := #[] }, { accessFlags := 18, nameIndex := 57, descriptorIndex := 58, attributes := #[] }, { accessFlags := 66, nameIndex := 105, descriptorIndex := 58, attributes := #[] }, { accessFlags := 4122, nameIndex := 27, descriptorIndex := 28, attributes := #[] }])
  fields := #[{ name := "SHA_1", type := (.object "com/example/mortise/mortise/Algorithm"), accessFlags := 16409, slot := 0, constantValue := 0 }, { name := "SHA_224", type := (.object "com/example/mortise/mortise/Algorithm"), accessFlags := 16409, slot := 1, constantValue := 0 }, { name := "SHA_256", type := (.object "com/example/mortise/mortise/Algorithm"), accessFlags := 16409, slot := 2, constantValue := 0 }, { name := "SHA_384", type := (.object "com/example/mortise/mortise/Algorithm"), accessFlags := 16409, slot := 3, constantValue := 0 }, { name := "SHA_512", type := (.object "com/example/mortise/mortise/Algorithm"), accessFlags := 16409, slot := 4, constantValue := 0 }, { name := "SHA_512_224", type := (.object "com/example/mortise/mortise/Algorithm"), accessFlags := 16409, slot := 5, constantValue := 0 }, { name := "SHA_512_256", type := (.object "com/example/mortise/mortise/Algorithm"), accessFlags := 16409, slot := 6, constantValue := 0 }, { name := "standardName", type := (.object "java/lang/String"), accessFlags := 18, slot := 3, constantValue := 0 }, { name := "commandName", type := (.object "java/lang/String"), accessFlags := 18, slot := 4, constantValue := 0 }, { name := "digestLength", type := .int, accessFlags := 18, slot := 5, constantValue := 0 }, { name := "engines", type := (.object "java/util/function/Supplier"), accessFlags := 18, slot := 6, constantValue := 0 }, { name := "digests", type := (.object "java/util/function/Supplier"), accessFlags := 66, slot := 7, constantValue := 0 }, { name := "$VALUES", type := (.array (.object "com/example/mortise/mortise/Algorithm")), accessFlags := 4122, slot := 7, constantValue := 0 }]
  methods := #[]
  instanceTypes := #[(.object "java/lang/String"), .int, .int, (.object "java/lang/String"), (.object "java/lang/String"), .int, (.object "java/util/function/Supplier"), (.object "java/util/function/Supplier")]
  staticTypes := #[(.object "com/example/mortise/mortise/Algorithm"), (.object "com/example/mortise/mortise/Algorithm"), (.object "com/example/mortise/mortise/Algorithm"), (.object "com/example/mortise/mortise/Algorithm"), (.object "com/example/mortise/mortise/Algorithm"), (.object "com/example/mortise/mortise/Algorithm"), (.object "com/example/mortise/mortise/Algorithm"), (.array (.object "com/example/mortise/mortise/Algorithm"))]
  resolved := Array.replicate 309 none
  statics := some 1 }

def pool13 : Array CpInfo := pool [(1, .class_ 2), (0, u "java/lang/Cloneable"), (0, .class_ 4), (0, u "java/lang/Object")] 2

/-- java/lang/Cloneable -/
def k13 : Class := { plain "java/lang/Cloneable" (some 0) with
  accessFlags := 1537
  interfaces := #[]
  cf := some (fileOf pool13 1 #[] #[] 1537 3 #[] #[])
  fields := #[]
  methods := #[]
  instanceTypes := #[]
  staticTypes := #[]
  resolved := Array.replicate 7 none
  statics := none }

def pool14 : Array CpInfo := pool [(2, .class_ 4), (1, u "java/lang/Object"), (0, u "<init>"), (0, u "()V"), (1, .class_ 10), (1, u "java/lang/System"), (0, u "allowSecurityManager"), (0, u "I"), (16, u "cons"), (0, u "Ljava/io/Console;"), (77, .class_ 110), (1, u "java/lang/System$CallersHolder"), (43, u "initialErrStream"), (0, u "Ljava/io/PrintStream;"), (19, u "security"), (0, u "Ljava/lang/SecurityManager;"), (31, .class_ 209), (0, u "java/lang/System$1"), (7, u "props"), (0, u "Ljava/util/Properties;"), (2, u "lineSeparator"), (0, u "Ljava/lang/String;"), (96, .class_ 321), (1, u "java/lang/System$LoggerFinder"), (5, .class_ 328), (0, u "java/lang/System$Logger"), (67, u "err"), (2, u "out"), (91, u "notSupportedJnuEncoding"), (15, u "in"), (17, u "initialIn"), (0, u "Ljava/io/InputStream;"), (35, u "bootLayer"), (0, u "Ljava/lang/ModuleLayer;"), (99, .class_ 664), (0, u "java/lang/System$2"), (9, u "NEVER"), (2, u "MAYBE"), (49, u "arraycopy"), (0, u "(Ljava/lang/Object;ILjava/lang/Object;II)V"), (72, .class_ 802), (0, u "java/lang/System$Logger$Level")] 31

def k14m0 : Method := { name := "<init>", desc := "()V", sig := { parameters := [], returnType := none }, accessFlags := 2, code := none }
def k14m1 : Method := { name := "arraycopy", desc := "(Ljava/lang/Object;ILjava/lang/Object;II)V", sig := { parameters := [(.object "java/lang/Object"), .int, (.object "java/lang/Object"), .int, .int], returnType := none }, accessFlags := 265, code := none }
/-- java/lang/System -/
def k14 : Class := { plain "java/lang/System" (some 0) with
  accessFlags := 49
  interfaces := #[]
  cf := some (fileOf pool14 8 #[.nestMembers #[319, 327, 801, 108, 663, 208]] #[{ accessFlags := 2, nameIndex := 5, descriptorIndex := 6, attributes := #[] }, { accessFlags := 265, nameIndex := 727, descriptorIndex := 728, attributes := #[] }] 49 2 #[] #[{ accessFlags := 25, nameIndex := 507, descriptorIndex := 526, attributes := #[] }, { accessFlags := 25, nameIndex := 399, descriptorIndex := 155, attributes := #[] }, { accessFlags := 25, nameIndex := 396, descriptorIndex := 155, attributes := #[] }, { accessFlags := 10, nameIndex := 525, descriptorIndex := 526, attributes := #[] }, { accessFlags := 26, nameIndex := 674, descriptorIndex := 12, attributes := #[] }, { accessFlags := 26, nameIndex := 677, descriptorIndex := 12, attributes := #[] }, { accessFlags := 10, nameIndex := 11, descriptorIndex := 12, attributes := #[] }, { accessFlags := 74, nameIndex := 175, descriptorIndex := 176, attributes := #[] }, { accessFlags := 10, nameIndex := 491, descriptorIndex := 222, attributes := #[] }, { accessFlags := 74, nameIndex := 29, descriptorIndex := 30, attributes := #[] }, { accessFlags := 74, nameIndex := 154, descriptorIndex := 155, attributes := #[] }, { accessFlags := 10, nameIndex := 217, descriptorIndex := 218, attributes := #[] }, { accessFlags := 10, nameIndex := 221, descriptorIndex := 222, attributes := #[] }, { accessFlags := 8, nameIndex := 562, descriptorIndex := 563, attributes := #[] }])
  fields := #[{ name := "in", type := (.object "java/io/InputStream"), accessFlags := 25, slot := 0, constantValue := 0 }, { name := "out", type := (.object "java/io/PrintStream"), accessFlags := 25, slot := 1, constantValue := 0 }, { name := "err", type := (.object "java/io/PrintStream"), accessFlags := 25, slot := 2, constantValue := 0 }, { name := "initialIn", type := (.object "java/io/InputStream"), accessFlags := 10, slot := 3, constantValue := 0 }, { name := "NEVER", type := .int, accessFlags := 26, slot := 4, constantValue := 0 }, { name := "MAYBE", type := .int, accessFlags := 26, slot := 5, constantValue := 0 }, { name := "allowSecurityManager", type := .int, accessFlags := 10, slot := 6, constantValue := 0 }, { name := "security", type := (.object "java/lang/SecurityManager"), accessFlags := 74, slot := 7, constantValue := 0 }, { name := "notSupportedJnuEncoding", type := (.object "java/lang/String"), accessFlags := 10, slot := 8, constantValue := 0 }, { name := "cons", type := (.object "java/io/Console"), accessFlags := 74, slot := 9, constantValue := 0 }, { name := "initialErrStream", type := (.object "java/io/PrintStream"), accessFlags := 74, slot := 10, constantValue := 0 }, { name := "props", type := (.object "java/util/Properties"), accessFlags := 10, slot := 11, constantValue := 0 }, { name := "lineSeparator", type := (.object "java/lang/String"), accessFlags := 10, slot := 12, constantValue := 0 }, { name := "bootLayer", type := (.object "java/lang/ModuleLayer"), accessFlags := 8, slot := 13, constantValue := 0 }]
  methods := #[k14m0, k14m1]
  instanceTypes := #[]
  staticTypes := #[(.object "java/io/InputStream"), (.object "java/io/PrintStream"), (.object "java/io/PrintStream"), (.object "java/io/InputStream"), .int, .int, .int, (.object "java/lang/SecurityManager"), (.object "java/lang/String"), (.object "java/io/Console"), (.object "java/io/PrintStream"), (.object "java/util/Properties"), (.object "java/lang/String"), (.object "java/lang/ModuleLayer")]
  resolved := Array.replicate 834 none
  statics := none }

/-- the primitive byte -/
def k15 : Class := { plain "byte" none with kind := .primitive 'B', accessFlags := 0x411 }
/-- [B -/
def k16 : Class := { plain "[B" (some 0) with kind := .array 15 .byte, interfaces := #[13, 10], accessFlags := 1041 }

/-- the primitive int -/
def k17 : Class := { plain "int" none with kind := .primitive 'I', accessFlags := 0x411 }
/-- [I -/
def k18 : Class := { plain "[I" (some 0) with kind := .array 17 .int, interfaces := #[13, 10], accessFlags := 1041 }

def heap : Heap := #[{ cls := 7, slots := #[.ref 3, .null], vm := .statics 7 },
  { cls := 12, slots := #[.ref 2, .null, .null, .null, .null, .null, .null, .null], vm := .statics 12 },
  { cls := 12, slots := #[.null, .int 0, .int 0, .null, .null, .int 0, .null, .null], vm := .none },
  { cls := 18, slots := #[.int 1732584193, .int (-271733879), .int (-1732584194), .int 271733878, .int (-1009589776)], vm := .none }]
def classes : Array Class := #[k0, k1, k2, k3, k4, k5, k6, k7, k8, k9, k10, k11, k12, k13, k14, k15, k16, k17, k18]
def interned : List (Array UInt16 × Addr) := []
def slotsUsed : Nat := 23
def theMethod : MethodId := ⟨1, 1⟩
def args0 : Array Value := #[.int 1, .int 2, .int 3, .int 4, .int 5, .int 6]
def aboutOver (below : List Frame) : State where
  vm := { classes := classes, interned := interned.toArray }
  heap := heap
  slotsUsed := slotsUsed
  threads := #[{ frames := .invoking theMethod args0 :: below }]
def below0 : List Frame := [.native { method := ⟨0, 0⟩, args := #[] }]
def about1 : State := aboutOver below0
def p0 : Program := .bare "" "" ""
def e0 : Env := launch0.env 0 0 0
theorem w_frames : about1.frames = Frame.invoking theMethod args0 :: below0 := rfl
set_option maxRecDepth 65536 in
theorem w_args : argsFit about1.vm theMethod args0 = true := by decide +kernel
set_option maxRecDepth 65536 in
theorem w_heap : heapFits about1 = true := by decide +kernel
set_option maxRecDepth 65536 in
theorem w_runnable : about1.curStatus? = some .runnable := by decide +kernel
set_option maxRecDepth 65536 in
theorem w_alone : about1.alone = true := by decide +kernel
set_option maxRecDepth 65536 in
theorem w_named : about1.methodNamed? x = some theMethod := by decide +kernel
set_option maxRecDepth 65536 in
theorem w_hears : about1.hears theMethod below0 = true := by decide +kernel
set_option maxRecDepth 65536 in
theorem w_ripe : about1.ripe theMethod args0 below0 = true := by decide +kernel
theorem w_running : about1.status = .running := rfl
set_option maxRecDepth 65536 in
theorem w_room : about1.hasRoom e0.platform room_1 = true :=
  launch0.hasRoom_least _ room_1 (by decide +kernel) (by decide +kernel) (by decide +kernel) (by decide +kernel) (by decide +kernel) (by decide +kernel)
theorem allAtoms_all (ts : List Jvm.Cond) (a : Array Jvm.Value) (st : Jvm.State) : (allAtoms ts).before a st = ts.all (fun c => c.before a st) := by
  induction ts with
  | nil => rfl
  | cons c t ih =>
    show (Jvm.Cond.and c (allAtoms t)).before a st = _
    rw [Jvm.Cond.before_and, ih, List.all_cons]
def words1 : List Jvm.Cond := Jvm.Cond.code x code maxLocals ret :: tables_1
/-- a 'code' word, met by the world's own term for the bytes: nothing is compared byte by byte -/
theorem code_word {y : MethodName} {bytes : ByteArray} {mx : Nat} {rt : Option FieldType} {a : Array Value} {s : State} {m : MethodId} {meth : Method} {c : Code} (h1 : s.methodNamed? y = some m) (h2 : s.vm.method? m = some meth) (h3 : meth.code = some c) (h4 : c.code = bytes)
    (h5 : (c.maxLocals == mx && c.exceptionTable.isEmpty && decide (c.maxStack ≤ mostOperands) && decide (meth.sig.returnType = rt) && !meth.locks && decide (parseMethodDescriptor y.desc = some meth.sig)) = true) : (Jvm.Cond.code y bytes mx rt).before a s = true := by
  simp only [Bool.and_eq_true, beq_iff_eq, Bool.not_eq_true', decide_eq_true_eq] at h5
  obtain ⟨⟨⟨⟨⟨g1, g2⟩, g3⟩, g4⟩, g5⟩, g6⟩ := h5
  simp [Cond.before, Cond.holds, Cond.value, h1, h2, h3, h4, g1, g2, g3, g4, g5, g6]
def isCode : Jvm.Cond → Bool
  | .code _ _ _ _ => true
  | _ => false
theorem all_split {L : List Jvm.Cond} {P : Jvm.Cond → Bool} (h1 : L.all (fun c => isCode c || P c) = true) (h2 : ∀ c ∈ L.filter isCode, P c = true) : L.all P = true := by
  refine List.all_eq_true.mpr fun c hc => ?_
  have h := List.all_eq_true.mp h1 c hc
  rcases Bool.eq_false_or_eq_true (isCode c) with hi | hi
  · exact h2 c (List.mem_filter.mpr ⟨hc, hi⟩)
  · simpa [hi] using h
set_option maxRecDepth 65536 in
theorem w_c0 : (Jvm.Cond.code x code maxLocals ret).before args0 about1 = true := code_word (m := ⟨1, 1⟩) (meth := k1m1) (c := k1c1) (by decide +kernel) rfl rfl rfl (by decide +kernel)
set_option maxRecDepth 65536 in
theorem w_c1 : (Jvm.Cond.code ({ cls := "com/example/mortise/mortise/Sha1", name := "sha1", desc := "()Lcom/example/mortise/mortise/Sha1;" } : Jvm.MethodName) prog_54_method_2_code (0 : Nat) (Option.some (Jvm.ClassFile.FieldType.object "com/example/mortise/mortise/Sha1"))).before args0 about1 = true := code_word (m := ⟨7, 1⟩) (meth := k7m1) (c := k7c1) (by decide +kernel) rfl rfl rfl (by decide +kernel)
set_option maxRecDepth 65536 in
theorem w_c2 : (Jvm.Cond.code ({ cls := "com/example/mortise/mortise/Sha1", name := "<init>", desc := "()V" } : Jvm.MethodName) prog_54_method_1_code (1 : Nat) (Option.none : Option Jvm.ClassFile.FieldType)).before args0 about1 = true := code_word (m := ⟨7, 0⟩) (meth := k7m0) (c := k7c0) (by decide +kernel) rfl rfl rfl (by decide +kernel)
set_option maxRecDepth 65536 in
theorem w_c3 : (Jvm.Cond.code ({ cls := "com/example/mortise/mortise/Word32Digest", name := "<init>", desc := "(Lcom/example/mortise/mortise/Algorithm;[I)V" } : Jvm.MethodName) prog_57_method_1_code (3 : Nat) (Option.none : Option Jvm.ClassFile.FieldType)).before args0 about1 = true := code_word (m := ⟨6, 0⟩) (meth := k6m0) (c := k6c0) (by decide +kernel) rfl rfl rfl (by decide +kernel)
set_option maxRecDepth 65536 in
theorem w_c4 : (Jvm.Cond.code ({ cls := "com/example/mortise/mortise/BlockDigest", name := "<init>", desc := "(Lcom/example/mortise/mortise/Algorithm;II)V" } : Jvm.MethodName) prog_45_method_1_code (4 : Nat) (Option.none : Option Jvm.ClassFile.FieldType)).before args0 about1 = true := code_word (m := ⟨5, 0⟩) (meth := k5m0) (c := k5c0) (by decide +kernel) rfl rfl rfl (by decide +kernel)
set_option maxRecDepth 65536 in
theorem w_c5 : (Jvm.Cond.code ({ cls := "com/example/mortise/mortise/BlockDigest", name := "maxMessageBytes", desc := "(I)J" } : Jvm.MethodName) prog_45_method_2_code (1 : Nat) (Option.some Jvm.ClassFile.FieldType.long)).before args0 about1 = true := code_word (m := ⟨5, 1⟩) (meth := k5m1) (c := k5c1) (by decide +kernel) rfl rfl rfl (by decide +kernel)
set_option maxRecDepth 65536 in
theorem w_c6 : (Jvm.Cond.code ({ cls := "com/example/mortise/mortise/ResumableDigest", name := "<init>", desc := "(Lcom/example/mortise/mortise/Algorithm;IJ)V" } : Jvm.MethodName) prog_51_method_1_code (5 : Nat) (Option.none : Option Jvm.ClassFile.FieldType)).before args0 about1 = true := code_word (m := ⟨4, 0⟩) (meth := k4m0) (c := k4c0) (by decide +kernel) rfl rfl rfl (by decide +kernel)
set_option maxRecDepth 65536 in
theorem w_c7 : (Jvm.Cond.code ({ cls := "com/example/mortise/mortise/Digest", name := "<init>", desc := "(Lcom/example/mortise/mortise/Algorithm;IJ)V" } : Jvm.MethodName) prog_47_method_1_code (5 : Nat) (Option.none : Option Jvm.ClassFile.FieldType)).before args0 about1 = true := code_word (m := ⟨3, 0⟩) (meth := k3m0) (c := k3c0) (by decide +kernel) rfl rfl rfl (by decide +kernel)
set_option maxRecDepth 65536 in
theorem w_c8 : (Jvm.Cond.code ({ cls := "com/example/mortise/mortise/RunningHash", name := "<init>", desc := "()V" } : Jvm.MethodName) prog_52_method_1_code (1 : Nat) (Option.none : Option Jvm.ClassFile.FieldType)).before args0 about1 = true := code_word (m := ⟨2, 0⟩) (meth := k2m0) (c := k2c0) (by decide +kernel) rfl rfl rfl (by decide +kernel)
set_option maxRecDepth 65536 in
theorem w_c9 : (Jvm.Cond.code ({ cls := "java/lang/Object", name := "<init>", desc := "()V" } : Jvm.MethodName) object_method_1_code (1 : Nat) (Option.none : Option Jvm.ClassFile.FieldType)).before args0 about1 = true := code_word (m := ⟨0, 0⟩) (meth := k0m0) (c := k0c0) (by decide +kernel) rfl rfl rfl (by decide +kernel)
set_option maxRecDepth 65536 in
theorem w_c10 : (Jvm.Cond.code ({ cls := "com/example/mortise/mortise/Word32Digest", name := "resetHash", desc := "()V" } : Jvm.MethodName) prog_57_method_3_code (1 : Nat) (Option.none : Option Jvm.ClassFile.FieldType)).before args0 about1 = true := code_word (m := ⟨6, 1⟩) (meth := k6m1) (c := k6c1) (by decide +kernel) rfl rfl rfl (by decide +kernel)
set_option maxRecDepth 65536 in
theorem w_c11 : (Jvm.Cond.code ({ cls := "com/example/mortise/mortise/Word32DigestResetHashPinLaw", name := "isInitial", desc := "([I)Z" } : Jvm.MethodName) method_3_code (1 : Nat) (Option.some Jvm.ClassFile.FieldType.boolean)).before args0 about1 = true := code_word (m := ⟨1, 2⟩) (meth := k1m2) (c := k1c2) (by decide +kernel) rfl rfl rfl (by decide +kernel)
def codes1 : List Jvm.Cond := [Jvm.Cond.code x code maxLocals ret, Jvm.Cond.code ({ cls := "com/example/mortise/mortise/Sha1", name := "sha1", desc := "()Lcom/example/mortise/mortise/Sha1;" } : Jvm.MethodName) prog_54_method_2_code (0 : Nat) (Option.some (Jvm.ClassFile.FieldType.object "com/example/mortise/mortise/Sha1")), Jvm.Cond.code ({ cls := "com/example/mortise/mortise/Sha1", name := "<init>", desc := "()V" } : Jvm.MethodName) prog_54_method_1_code (1 : Nat) (Option.none : Option Jvm.ClassFile.FieldType), Jvm.Cond.code ({ cls := "com/example/mortise/mortise/Word32Digest", name := "<init>", desc := "(Lcom/example/mortise/mortise/Algorithm;[I)V" } : Jvm.MethodName) prog_57_method_1_code (3 : Nat) (Option.none : Option Jvm.ClassFile.FieldType), Jvm.Cond.code ({ cls := "com/example/mortise/mortise/BlockDigest", name := "<init>", desc := "(Lcom/example/mortise/mortise/Algorithm;II)V" } : Jvm.MethodName) prog_45_method_1_code (4 : Nat) (Option.none : Option Jvm.ClassFile.FieldType), Jvm.Cond.code ({ cls := "com/example/mortise/mortise/BlockDigest", name := "maxMessageBytes", desc := "(I)J" } : Jvm.MethodName) prog_45_method_2_code (1 : Nat) (Option.some Jvm.ClassFile.FieldType.long), Jvm.Cond.code ({ cls := "com/example/mortise/mortise/ResumableDigest", name := "<init>", desc := "(Lcom/example/mortise/mortise/Algorithm;IJ)V" } : Jvm.MethodName) prog_51_method_1_code (5 : Nat) (Option.none : Option Jvm.ClassFile.FieldType), Jvm.Cond.code ({ cls := "com/example/mortise/mortise/Digest", name := "<init>", desc := "(Lcom/example/mortise/mortise/Algorithm;IJ)V" } : Jvm.MethodName) prog_47_method_1_code (5 : Nat) (Option.none : Option Jvm.ClassFile.FieldType), Jvm.Cond.code ({ cls := "com/example/mortise/mortise/RunningHash", name := "<init>", desc := "()V" } : Jvm.MethodName) prog_52_method_1_code (1 : Nat) (Option.none : Option Jvm.ClassFile.FieldType), Jvm.Cond.code ({ cls := "java/lang/Object", name := "<init>", desc := "()V" } : Jvm.MethodName) object_method_1_code (1 : Nat) (Option.none : Option Jvm.ClassFile.FieldType), Jvm.Cond.code ({ cls := "com/example/mortise/mortise/Word32Digest", name := "resetHash", desc := "()V" } : Jvm.MethodName) prog_57_method_3_code (1 : Nat) (Option.none : Option Jvm.ClassFile.FieldType), Jvm.Cond.code ({ cls := "com/example/mortise/mortise/Word32DigestResetHashPinLaw", name := "isInitial", desc := "([I)Z" } : Jvm.MethodName) method_3_code (1 : Nat) (Option.some Jvm.ClassFile.FieldType.boolean)]
set_option maxRecDepth 65536 in
theorem codes_eq : words1.filter isCode = codes1 := rfl
theorem w_codes : ∀ c ∈ words1.filter isCode, c.before args0 about1 = true := by
  rw [codes_eq]
  intro c hc
  simp only [codes1, List.mem_cons, List.not_mem_nil, or_false] at hc
  rcases hc with rfl | rfl | rfl | rfl | rfl | rfl | rfl | rfl | rfl | rfl | rfl | rfl
  · exact w_c0
  · exact w_c1
  · exact w_c2
  · exact w_c3
  · exact w_c4
  · exact w_c5
  · exact w_c6
  · exact w_c7
  · exact w_c8
  · exact w_c9
  · exact w_c10
  · exact w_c11
set_option maxRecDepth 65536 in
theorem w_t1 : (words1.take 24).all (fun c => isCode c || c.before args0 about1) = true := by decide +kernel
set_option maxRecDepth 65536 in
theorem w_t2 : ((words1.drop 24).take 24).all (fun c => isCode c || c.before args0 about1) = true := by decide +kernel
set_option maxRecDepth 65536 in
theorem w_t3 : (((words1.drop 24).drop 24).take 24).all (fun c => isCode c || c.before args0 about1) = true := by decide +kernel
set_option maxRecDepth 65536 in
theorem w_t4 : ((((words1.drop 24).drop 24).drop 24).take 24).all (fun c => isCode c || c.before args0 about1) = true := by decide +kernel
set_option maxRecDepth 65536 in
theorem w_t5 : ((((words1.drop 24).drop 24).drop 24).drop 24).all (fun c => isCode c || c.before args0 about1) = true := by decide +kernel
theorem w_tables : (allAtoms (Jvm.Cond.code x code maxLocals ret :: tables_1)).before args0 about1 = true := by
  rw [allAtoms_all]
  show words1.all (fun c => c.before args0 about1) = true
  refine all_split ?_ w_codes
  rw [← List.take_append_drop 24 words1, List.all_append, w_t1, ← List.take_append_drop 24 (words1.drop 24), List.all_append, w_t2, ← List.take_append_drop 24 ((words1.drop 24).drop 24), List.all_append, w_t3, ← List.take_append_drop 24 (((words1.drop 24).drop 24).drop 24), List.all_append, w_t4, w_t5]
  rfl
set_option maxRecDepth 65536 in
theorem w_case : (Jvm.Cond.and given_1 narrow_1).before args0 about1 = true := by decide +kernel
theorem w_applies : (headSpec (Jvm.Cond.code x code maxLocals ret :: tables_1) room_1).applies x e0.platform about1 = true :=
  (Spec.applies_iff w_frames).mpr ⟨w_running, w_runnable, w_alone, w_named, w_hears, w_ripe, w_room, w_tables⟩
theorem atStart : AtStart classFile x code maxLocals ret World_1 tables_1 room_1 Calls_1 rest_1 Pre_1 launch0 p0 e0 about1 theMethod args0 below0 :=
  ⟨lists_1, trivial, launch0.admits_env _ _ _, launch0.least_env, fairChoices_fair.cas, fairChoices_fair.clock, w_frames, w_args, w_heap, w_applies, trivial, trivial, w_case⟩
end start1
theorem witness_1 : WitnessClaimed_1 := ⟨start1.p0, start1.e0, start1.about1, start1.theMethod, start1.args0, start1.below0, start1.atStart⟩
end Jvm.Pilot.@@N@@
