/-
  STRAIGHT CODE OVER WORDS, SEEN TO BE WHOLE BY A SMALL PROGRAM: operations that move, add, and turn words of 32 bits, read words out of 64 bytes, and rotate. What they reckon is left open; that they reckon words is shown.
-/
import Derived.Test.YtlabcknoooaefaaGreatDoorZMa
import Derived.Great.Frames
namespace Go.Proofs.YtlabcknoooaefaaGreatDoor
open Go.RowKit
set_option linter.unusedVariables false

/-- What is known of a slot: a word; the 64 bytes from number c on. -/
inductive Kd where
  | word
  | sl (c : Nat)
  deriving DecidableEq

def Kd.has (xb xo : Nat) : Kd → Value → Prop
  | .word, v => ∃ n : Int, v = .int .u32 n ∧ 0 ≤ n ∧ n < 4294967296
  | .sl c, v => v = .slice (some ⟨xb, xo + c, none⟩) (64 - c) (64 - c)

def look (T : List (Nat × Kd)) (t : Nat) : Option Kd :=
  match T with
  | [] => none
  | (d, k) :: T => if d = t then some k else look T t

def opnd (T : List (Nat × Kd)) : Operand → Option Kd
  | .tmp t => look T t
  | .const (.int .u32 v) => if 0 ≤ v ∧ v < 4294967296 then some .word else none
  | _ => none

def isWord (T : List (Nat × Kd)) (x : Operand) : Bool := decide (opnd T x = some .word)

def rotB (k : Int) : Bool := decide (k = 7) || decide (k = 12) || decide (k = 17) || decide (k = 22) || decide (k = 5) || decide (k = 9) || decide (k = 14) || decide (k = 20) || decide (k = 4) || decide (k = 11) || decide (k = 16) || decide (k = 23) || decide (k = 6) || decide (k = 10) || decide (k = 15) || decide (k = 21)

def yArgs178 (T : List (Nat × Kd)) : List Operand → Option Kd
  | [x] => match opnd T x with
    | some (.sl c) => if c ≤ 60 then some .word else none
    | _ => none
  | _ => none

def yArgs179 (T : List (Nat × Kd)) : List Operand → Option Kd
  | [x, .const (.int .i64 k)] => if isWord T x && rotB k then some .word else none
  | _ => none

def yCall (T : List (Nat × Kd)) (c : Call) : Option Kd :=
  match c.callee with
  | .value (.func f) => if f = 178 then yArgs178 T c.args.toList else if f = 179 then yArgs179 T c.args.toList else none
  | _ => none

def yields (T : List (Nat × Kd)) : Op → Option Kd
  | .move x => opnd T x
  | .assign x => opnd T x
  | .binOp .add 22 x y _ => if isWord T x && isWord T y then some .word else none
  | .binOp .xor 22 x y _ => if isWord T x && isWord T y then some .word else none
  | .binOp .and 22 x y _ => if isWord T x && isWord T y then some .word else none
  | .binOp .or 22 x y _ => if isWord T x && isWord T y then some .word else none
  | .unOp .xor 22 x => if isWord T x then some .word else none
  | .slice 23 x (some (.const (.int .i64 c))) none none => if decide (opnd T x = some (.sl 0)) && decide (0 ≤ c) && decide (c ≤ 60) then some (.sl c.toNat) else none
  | .call c => yCall T c
  | _ => none

def okSlot (d : Nat) : Bool := decide ((3 < d ∧ d < 8 ∨ 9 < d) ∧ d < 1058)

theorem okSlot_is {d : Nat} (h : okSlot d = true) : (3 < d ∧ d < 8 ∨ 9 < d) ∧ d < 1058 := of_decide_eq_true h

/-- One operation: what is known behind it. -/
def stp (T : List (Nat × Kd)) (o : Oper) : Option (List (Nat × Kd)) :=
  match o.guard, o.dst, yields T o.op with
  | none, some d, some k => if okSlot d = true then some ((d, k) :: T) else none
  | _, _, _ => none

def chkOps (T : List (Nat × Kd)) : List Oper → Option (List (Nat × Kd))
  | [] => some T
  | o :: l => (stp T o).bind fun T => chkOps T l

def chkCode : Code → List (Nat × Kd) → Option (List (Nat × Kd))
  | .skip, T => some T
  | .seq x y, T => (chkCode x T).bind (chkCode y)
  | .region _ ops false, T => (chkOps T ops.toList).map (·.filter fun p => decide (p.1 < 30))
  | _, _ => none

def Holds (xb xo : Nat) (T : List (Nat × Kd)) (a : Act) : Prop := ∀ t k, look T t = some k → k.has xb xo (a.eval (.tmp t))

structure Same (a a' : Act) : Prop where
  size : a'.tmps.size = a.tmps.size
  defers : a'.defers = a.defers
  slot : ∀ t : Nat, t ≤ 3 ∨ t = 8 ∨ t = 9 → a'.eval (.tmp t) = a.eval (.tmp t)

theorem Same.refl (a : Act) : Same a a := ⟨rfl, rfl, fun _ _ => rfl⟩
theorem Same.trans {a b c : Act} (h : Same a b) (k : Same b c) : Same a c := ⟨k.size.trans h.size, k.defers.trans h.defers, fun t ht => (k.slot t ht).trans (h.slot t ht)⟩

theorem opnd_holds {xb xo : Nat} {T : List (Nat × Kd)} {a : Act} (h : Holds xb xo T a) (x : Operand) (k : Kd) (hx : opnd T x = some k) : k.has xb xo (a.eval x) := by
  unfold opnd at hx
  split at hx
  · exact h _ _ hx
  · rename_i v
    split at hx
    · simp at hx
      subst hx
      rename_i hv
      exact ⟨v, rfl, hv⟩
    · simp at hx
  · simp at hx

theorem isWord_holds {xb xo : Nat} {T : List (Nat × Kd)} {a : Act} (h : Holds xb xo T a) (x : Operand) (hx : isWord T x = true) : ∃ n : Int, a.eval x = .int .u32 n ∧ 0 ≤ n ∧ n < 4294967296 := by
  unfold isWord at hx
  exact opnd_holds h x _ (of_decide_eq_true hx)

theorem run_add (a : Act) (x y : Operand) (n m : Int) (o : Oper) (yt : TypeId) (w : World) (hx : a.eval x = .int .u32 n) (hy : a.eval y = .int .u32 m) (ho : o.op = .binOp .add 22 x y yt) :
    (execOp a.eval o).run Tryz.prog w = .ok (.value (.int .u32 (IntKind.u32.wrap (n + m)))) w := by
  unfold execOp
  rw [ho]
  simp only [hx, hy]
  rfl
theorem run_bits (b : BinOp) (hb : b = .xor ∨ b = .and ∨ b = .or) (a : Act) (x y : Operand) (n m : Int) (o : Oper) (yt : TypeId) (w : World) (hx : a.eval x = .int .u32 n) (hy : a.eval y = .int .u32 m) (ho : o.op = .binOp b 22 x y yt) :
    (execOp a.eval o).run Tryz.prog w = .ok (.value (.int .u32 (bits b .u32 n m))) w := by
  rcases hb with rfl | rfl | rfl
  all_goals
    unfold execOp
    rw [ho]
    simp only [hx, hy]
    rfl
theorem run_not (a : Act) (x : Operand) (n : Int) (o : Oper) (w : World) (hx : a.eval x = .int .u32 n) (ho : o.op = .unOp .xor 22 x) :
    ∃ m : Int, (execOp a.eval o).run Tryz.prog w = .ok (.value (.int .u32 (IntKind.u32.wrap m))) w := by
  unfold execOp
  rw [ho]
  simp only [hx]
  exact ⟨_, rfl⟩

theorem run_move (a : Act) (x : Operand) (o : Oper) (w : World) (ho : o.op = .move x ∨ o.op = .assign x) : (execOp a.eval o).run Tryz.prog w = .ok (.value (a.eval x)) w := by
  unfold execOp
  rcases ho with ho | ho <;> (rw [ho]; rfl)

theorem run_call178 (a : Act) (x : Operand) (o : Oper) (tys : Array TypeId) (w : World) (ho : o.op = .call ⟨.value (.func 178), #[x], tys⟩) : (execOp a.eval o).run Tryz.prog w = .ok (.enter 178 #[a.eval x]) w := by
  unfold execOp
  rw [ho]
  kernel_rfl
theorem run_call179 (a : Act) (x : Operand) (k : Int) (o : Oper) (tys : Array TypeId) (w : World) (ho : o.op = .call ⟨.value (.func 179), #[x, .const (.int .i64 k)], tys⟩) : (execOp a.eval o).run Tryz.prog w = .ok (.enter 179 #[a.eval x, .int .i64 k]) w := by
  unfold execOp
  rw [ho]
  kernel_rfl

theorem run_slice (xb xo : Nat) (a : Act) (x : Operand) (c : Int) (hc : 0 ≤ c ∧ c ≤ 60) (o : Oper) (w : World) (hx : a.eval x = .slice (some ⟨xb, xo + 0, none⟩) (64 - 0) (64 - 0)) (ho : o.op = .slice 23 x (some (.const (.int .i64 c))) none none) :
    (execOp a.eval o).run Tryz.prog w = .ok (.value (.slice (some ⟨xb, xo + c.toNat, none⟩) (64 - c.toNat) (64 - c.toNat))) w := by
  unfold execOp
  rw [ho]
  simp only [hx]
  go_simp
  rw [if_pos (by omega), if_neg (by omega)]

/-- 64 bytes lie there. -/
def HB (xb xo : Nat) (w : World) : Prop := ∀ j, j < 64 → ∃ v : Int, w.cell? ⟨xb, xo + j, none⟩ = some (.int .u8 v) ∧ 0 ≤ v ∧ v < 256

theorem rotB_is {k : Int} (h : rotB k = true) : isRot k := by
  unfold rotB at h
  unfold isRot
  simp only [Bool.or_eq_true, decide_eq_true_eq] at h
  omega

theorem wrapWord (n : Int) : 0 ≤ IntKind.u32.wrap n ∧ IntKind.u32.wrap n < 4294967296 := by
  simp only [IntKind.wrap_u32]
  omega

theorem op_sound {xb xo : Nat} {T : List (Nat × Kd)} {a : Act} {w : World} (hT : Holds xb xo T a) (hB : HB xb xo w) (o : Oper) (k : Kd) (d : Nat) (hd : o.dst = some d) (hy : yields T o.op = some k) (K : Act → World → Prop) (Q : Exit → Act → World → Prop)
    (hK : ∀ v q, k.has xb xo v → K (a.put (some d) v) (w.drewN q)) : o.wp Tryz.prog a w K Q := by
  have hK0 : ∀ v, k.has xb xo v → K (a.put (some d) v) w := fun v hv => hK v 0 hv
  have hbin : ∀ (b : BinOp) (x y : Operand) (yt : TypeId), (b = .add ∨ b = .xor ∨ b = .and ∨ b = .or) → o.op = .binOp b 22 x y yt → (if isWord T x && isWord T y then some Kd.word else none) = some k → o.wp Tryz.prog a w K Q := by
    intro b x y yt hb ho hy
    split at hy
    · rename_i hc
      simp only [Bool.and_eq_true] at hc
      obtain ⟨n, hx, hnr⟩ := isWord_holds hT x hc.1
      obtain ⟨m, hy', hmr⟩ := isWord_holds hT y hc.2
      simp at hy
      subst hy
      unfold Oper.wp
      rcases hb with rfl | hb
      · rw [run_add a x y n m o yt w hx hy' ho, Oper.upon_value, hd]
        exact hK0 _ ⟨_, rfl, wrapWord _⟩
      · rw [run_bits b hb a x y n m o yt w hx hy' ho, Oper.upon_value, hd]
        exact hK0 _ ⟨_, rfl, word32_range _ _ _⟩
    · simp at hy
  unfold yields at hy
  split at hy
  · rename_i x ho
    unfold Oper.wp
    rw [run_move a x o w (.inl ho), Oper.upon_value, hd]
    exact hK0 _ (opnd_holds hT x k hy)
  · rename_i x ho
    unfold Oper.wp
    rw [run_move a x o w (.inr ho), Oper.upon_value, hd]
    exact hK0 _ (opnd_holds hT x k hy)
  · rename_i x y yt ho
    exact hbin _ x y yt (.inl rfl) ho hy
  · rename_i x y yt ho
    exact hbin _ x y yt (.inr (.inl rfl)) ho hy
  · rename_i x y yt ho
    exact hbin _ x y yt (.inr (.inr (.inl rfl))) ho hy
  · rename_i x y yt ho
    exact hbin _ x y yt (.inr (.inr (.inr rfl))) ho hy
  · rename_i x ho
    split at hy
    · rename_i hc
      obtain ⟨n, hx, hnr⟩ := isWord_holds hT x hc
      obtain ⟨m, hm⟩ := run_not a x n o w hx ho
      simp at hy
      subst hy
      unfold Oper.wp
      rw [hm, Oper.upon_value, hd]
      exact hK0 _ ⟨_, rfl, wrapWord _⟩
    · simp at hy
  · rename_i x c ho
    split at hy
    · rename_i hc
      simp only [Bool.and_eq_true, decide_eq_true_eq] at hc
      have hx := opnd_holds hT x _ hc.1.1
      simp at hy
      subst hy
      unfold Oper.wp
      rw [run_slice xb xo a x c ⟨hc.1.2, hc.2⟩ o w hx ho, Oper.upon_value, hd]
      exact hK0 _ rfl
    · simp at hy
  · rename_i cl ho
    obtain ⟨ce, args, tys⟩ := cl
    obtain ⟨args⟩ := args
    unfold yCall at hy
    split at hy
    · rename_i f hce
      simp only at hce
      subst hce
      split at hy
      · rename_i hf
        subst hf
        simp only at hy
        unfold yArgs178 at hy
        split at hy
        · rename_i x
          split at hy
          · rename_i c hc
            split at hy
            · rename_i h60
              have hx := opnd_holds hT x _ hc
              simp at hy
              subst hy
              unfold Oper.wp
              rw [run_call178 a x o tys w ho, Oper.upon_enter]
              have hx' : a.eval x = .slice (some ⟨xb, xo + c, none⟩) (64 - c) (64 - c) := hx
              rw [hx']
              refine (leU32 xb (xo + c) (64 - c) (by omega) w (fun j hj => ?_)).mono ?_
              · obtain ⟨v, hv, hr⟩ := hB (c + j) (by omega)
                exact ⟨v, by rw [Nat.add_assoc]; exact hv, hr⟩
              · rintro e w' ⟨⟨v, rfl, hv⟩, q, rfl⟩
                rw [hd]
                exact hK _ q ⟨v, rfl, hv⟩
            · simp at hy
          · simp at hy
        · simp at hy
      · split at hy
        · rename_i hf
          subst hf
          simp only at hy
          unfold yArgs179 at hy
          split at hy
          · rename_i x k
            split at hy
            · rename_i hc
              simp only [Bool.and_eq_true] at hc
              obtain ⟨n, hx, hnr⟩ := isWord_holds hT x hc.1
              simp at hy
              subst hy
              unfold Oper.wp
              rw [run_call179 a x k o tys w ho, Oper.upon_enter, hx]
              refine (rotl n k hnr (rotB_is hc.2) w).mono ?_
              rintro e w' ⟨⟨v, rfl, hv⟩, q, rfl⟩
              rw [hd]
              exact hK _ q ⟨v, rfl, hv⟩
            · simp at hy
          · simp at hy
        · simp at hy
    · simp at hy
  · simp at hy

theorem drewN_add (w : World) (q q' : Nat) : (w.drewN q).drewN q' = w.drewN (q + q') := by
  simp [World.drewN, Nat.add_assoc]

theorem Same.put (a : Act) (d : Nat) (v : Value) (hd : 3 < d ∧ d < 8 ∨ 9 < d) : Same a (a.put (some d) v) :=
  ⟨Act.size_put _ _ _, Act.defers_put' _ _ _, fun t ht => Act.eval_put_ne _ _ _ _ (by omega)⟩

theorem ops_sound {xb xo : Nat} (l : List Oper) : ∀ {T T' : List (Nat × Kd)} {a : Act} {w : World} (ops : Array Oper) (Q : Exit → Act → World → Prop), chkOps T l = some T' → Holds xb xo T a → HB xb xo w → a.tmps.size = 1058 →
    (∀ a' q, Holds xb xo T' a' → Same a a' → Q .normal a' (w.drewN q)) → wpList Tryz.prog ops Q l a w := by
  induction l with
  | nil =>
    intro T T' a w ops Q hc hT hB hs hQ
    simp [chkOps] at hc
    subst hc
    exact hQ a 0 hT (Same.refl a)
  | cons o l ih =>
    intro T T' a w ops Q hc hT hB hs hQ
    unfold chkOps at hc
    cases hst : stp T o with
    | none => rw [hst] at hc; simp at hc
    | some T1 =>
      rw [hst] at hc
      simp at hc
      unfold stp at hst
      split at hst
      · rename_i d k hg hd hy
        split at hst
        · rename_i hdd0
          have hdd := okSlot_is hdd0
          clear hdd0
          simp at hst
          subst hst
          refine wpList_plain hg fun K hK => ?_
          refine op_sound hT hB o k d hd hy K Q fun v q hv => hK _ _ ?_
          refine ih ops Q hc ?_ (fun j hj => hB j hj) ((Act.size_put _ _ _).trans hs) ?_
          · intro t k' hk'
            unfold look at hk'
            split at hk'
            · rename_i e
              subst e
              simp at hk'
              subst hk'
              rw [Act.eval_put_same _ _ _ (by omega)]
              exact hv
            · rename_i e
              rw [Act.eval_put_ne _ _ _ _ e]
              exact hT t k' hk'
          · intro a' q' h1 h2
            have := hQ a' (q + q') h1 ((Same.put a d v hdd.1).trans h2)
            rw [drewN_add]
            exact this
        · simp at hst
      · simp at hst
theorem look_filter (T : List (Nat × Kd)) (t : Nat) (k : Kd) (h : look (T.filter fun p => decide (p.1 < 30)) t = some k) : look T t = some k := by
  induction T with
  | nil => simp [look] at h
  | cons p T ih =>
    obtain ⟨d, k'⟩ := p
    by_cases hd : d < 30
    · simp only [List.filter_cons, hd, decide_true, if_true, look] at h ⊢
      split at h
      · rename_i e; rw [if_pos e]; exact h
      · rename_i e; rw [if_neg e]; exact ih h
    · simp only [List.filter_cons, hd, decide_false, look] at h ⊢
      have h' := ih h
      split
      · rename_i e
        subst e
        exfalso
        have hn : ∀ (T : List (Nat × Kd)), look (T.filter fun p => decide (p.1 < 30)) d = none := by
          intro T
          induction T with
          | nil => rfl
          | cons q T ih2 =>
            obtain ⟨d2, k2⟩ := q
            by_cases h2 : d2 < 30
            · simp only [List.filter_cons, h2, decide_true, if_true, look]
              rw [if_neg (by omega)]
              exact ih2
            · simp only [List.filter_cons, h2, decide_false]
              exact ih2
        have h0 := hn T
        simp only [Bool.false_eq_true, if_false] at h
        rw [h0] at h
        simp at h
      · exact h'

theorem code_sound {xb xo : Nat} (c : Code) : ∀ {T T' : List (Nat × Kd)} {a : Act} {w : World} (Q : Exit → Act → World → Prop), chkCode c T = some T' → Holds xb xo T a → HB xb xo w → a.tmps.size = 1058 →
    (∀ a' q, Holds xb xo T' a' → Same a a' → Q .normal a' (w.drewN q)) → c.wp Tryz.prog Q a w := by
  induction c with
  | skip =>
    intro T T' a w Q hc hT hB hs hQ
    simp [chkCode] at hc
    subst hc
    exact wp_skip (hQ a 0 hT (Same.refl a))
  | region id ops draw =>
    intro T T' a w Q hc hT hB hs hQ
    cases draw with
    | true => simp [chkCode] at hc
    | false =>
      simp only [chkCode, Option.map_eq_some_iff] at hc
      obtain ⟨T1, h1, rfl⟩ := hc
      exact wp_region_list (ops_sound ops.toList ops Q h1 hT hB hs fun a' q h2 h3 => hQ a' q (fun t k hk => h2 t k (look_filter T1 t k hk)) h3)
  | seq x y ihx ihy =>
    intro T T' a w Q hc hT hB hs hQ
    simp only [chkCode, Option.bind_eq_some_iff] at hc
    obtain ⟨T1, h1, h2⟩ := hc
    refine wp_seq (ihx _ h1 hT hB hs fun a' q h3 h4 => ?_)
    refine ihy Q h2 h3 (fun j hj => hB j hj) (h4.size.trans hs) fun a2 q2 h5 h6 => ?_
    rw [drewN_add]
    exact hQ a2 _ h5 (h4.trans h6)
  | _ => intro T T' a w Q hc; simp [chkCode] at hc
end Go.Proofs.YtlabcknoooaefaaGreatDoor
