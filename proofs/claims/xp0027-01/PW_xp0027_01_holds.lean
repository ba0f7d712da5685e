import PyProof.Rows.All
import KE.BytesMake
import KE.KSortTup
import Wide.FinOn
import OpenK.AllK
import Wide.All
import PySem.Challenge.RW_xp0027_01
set_option Elab.async false
set_option linter.all false
namespace Mine
section
/- pure data of the law: things, books, the pass -/
structure Th where
  nm : Int
  l : Int
  r : Int
structure Bk where
  on : Int
  mo : Int
  gv : Int
  tk : Int
  c : Int → Int
structure St where
  row : List Th
  bk : Int → Bk
noncomputable def mn (a b : Int) : Int := if b < a then b else a
noncomputable def gvs (f b : Th) : Int := mn f.l b.r
noncomputable def tks (f b : Th) : Int := mn b.l f.r
noncomputable def mor (f b : Th) : Int := gvs f b - tks f b
noncomputable def backT (f b : Th) : Th := ⟨b.nm, b.l + mor f b, b.r - mor f b⟩
noncomputable def frontT (f b : Th) : Th := ⟨f.nm, f.l - mor f b, f.r + mor f b⟩
noncomputable def backB (f b : Th) (x : Bk) : Bk := ⟨-1 + x.on, mor f b + x.mo, -gvs f b + x.gv, -tks f b + x.tk, fun i => x.c i + if f.nm = i then -1 else 0⟩
noncomputable def frontB (f b : Th) (x : Bk) : Bk := ⟨1 + x.on, -mor f b + x.mo, gvs f b + x.gv, tks f b + x.tk, fun i => x.c i + if b.nm = i then 1 else 0⟩
noncomputable def past (σ : St) (k : Nat) : St :=
  match σ.row[k]?, σ.row[k + 1]? with
  | some f, some b => ⟨(σ.row.set k (backT f b)).set (k + 1) (frontT f b), fun n => if n = b.nm then backB f b (σ.bk n) else if n = f.nm then frontB f b (σ.bk n) else σ.bk n⟩
  | _, _ => σ
noncomputable def cmp1 (a b d : Int) : Int := if a < b then -d else if b < a then d else 0
noncomputable def cmp2 (a b d a' b' d' : Int) : Int := if a < b then -d else if b < a then d else cmp1 a' b' d'
noncomputable def turn (cf : Int → Int → Int) (σ : St) (k : Nat) : St :=
  match σ.row[k]?, σ.row[k + 1]? with
  | some f, some b => if 0 < cf f.nm b.nm then past σ k else σ
  | _, _ => σ
noncomputable def sel (n : Int) (t : Th) : Int := if Int.fmod n 2 = 0 then t.l else t.r
noncomputable def tollStay (s : Int) (t : Th) (T : List Int) (c : Nat) : Int := T.getD c 0 + sel (s + c) t
noncomputable def tollMid (s : Int) (t : Th) (T : List Int) (j : Nat) : Int := mn (tollStay s t T (j + 1)) (T.getD j 0)
noncomputable def tollStep (s : Int) (T : List Int) (t : Th) : List Int :=
  [tollStay s t T 0] ++ (List.range (T.length - 1)).map (tollMid s t T) ++ [T.getD (T.length - 1) 0]
noncomputable def tolls (s : Int) (row : List Th) : List Int := row.foldl (tollStep s) [0]
noncomputable def accs (T : List Int) (room odd : Int) (i : Nat) : List Int := ((List.range i).filter (fun (c : Nat) => decide (Int.fmod (c : Int) 2 = odd))).map (fun (c : Nat) => T.getD c 0 + Int.fdiv (c : Int) 2 * room)
structure Least (M : Int) (l : List Int) : Prop where
  mem : M ∈ l
  le : ∀ a ∈ l, M ≤ a
theorem Least.uniq {l : List Int} {M M' : Int} (h : Least M l) (h' : Least M' l) : M = M' := Int.le_antisymm (h.le _ h'.mem) (h'.le _ h.mem)
@[irreducible] noncomputable def leastOf (l : List Int) : Int := l.tail.foldl min (l.headD 0)
theorem foldl_min_least : ∀ (l : List Int) (a : Int), Least (l.foldl min a) (a :: l)
  | [], a => ⟨List.mem_singleton.mpr rfl, fun b hb => by rw [List.mem_singleton.mp hb]; exact Int.le_refl _⟩
  | x :: r, a => by
    have ih := foldl_min_least r (min a x)
    rw [List.foldl_cons]
    refine ⟨?_, fun b hb => ?_⟩
    · have hm := ih.mem
      rcases List.mem_cons.mp hm with q | q
      · rw [q]
        rcases (by omega : min a x = a ∨ min a x = x) with z | z <;> rw [z]
        · exact List.mem_cons_self
        · exact List.mem_cons_of_mem _ List.mem_cons_self
      · exact List.mem_cons_of_mem _ (List.mem_cons_of_mem _ q)
    · have h0 := ih.le (min a x) List.mem_cons_self
      rcases List.mem_cons.mp hb with rfl | hb
      · omega
      rcases List.mem_cons.mp hb with rfl | hb
      · omega
      · exact ih.le b (List.mem_cons_of_mem _ hb)
theorem least_of {l : List Int} (h : l ≠ []) : Least (leastOf l) l := by
  cases l with
  | nil => exact absurd rfl h
  | cons a r =>
    unfold leastOf
    exact foldl_min_least r a
theorem Least.eq {l : List Int} {M : Int} (h : Least M l) : M = leastOf l := by
  refine h.uniq (least_of fun e => ?_)
  have := h.mem
  rw [e] at this
  cases this
noncomputable def crossOne (st : List Th) (T0 T1 : List Int) (x y : St) : Prop :=
  ∀ t s, x.row[0]? = some t → st[t.nm.toNat]? = some s → (y.bk t.nm).gv - (x.bk t.nm).gv = leastOf (accs T0 (s.l + s.r) 1 5) ∧ (y.bk t.nm).tk - (x.bk t.nm).tk = leastOf (accs T1 (s.l + s.r) 1 5)
structure Fits (rs : List Th) (T0 T1 : List Int) (σ : St) : Prop where
  nums : ∀ (i : Nat) (t s : Th), σ.row[i]? = some t → rs[t.nm.toNat]? = some s → (σ.bk t.nm).on = i - t.nm ∧ (σ.bk t.nm).mo = t.l - s.l ∧ (σ.bk t.nm).tk - (σ.bk t.nm).gv = (σ.bk t.nm).mo ∧ t.l + t.r = s.l + s.r
  who : ∀ (i j : Nat) (t u : Th), σ.row[i]? = some t → σ.row[j]? = some u → (σ.bk t.nm).c u.nm = (if j < i then 1 else 0) - (if u.nm < t.nm then 1 else 0)
  last : ∀ t s : Th, σ.row[3]? = some t → rs[t.nm.toNat]? = some s → t.l = leastOf (accs T0 (s.l + s.r) 0 5) - leastOf (accs T0 (s.l + s.r) 1 5)
  first : ∀ t s : Th, σ.row[0]? = some t → rs[t.nm.toNat]? = some s → t.r = leastOf (accs T1 (s.l + s.r) 0 5) - leastOf (accs T0 (s.l + s.r) 1 5)
  t0 : tolls 0 σ.row = T0
  t1 : tolls 1 σ.row = T1
end
section
inductive MpE where
  | v (i : Nat)
  | z
  | a (x y : MpE)
  | s (x y : MpE)
  | m (x y : MpE)
noncomputable def MpE.ev (r : List Int) : MpE → Int
  | .v i => r.getD i 0
  | .z => 0
  | .a x y => x.ev r + y.ev r
  | .s x y => x.ev r - y.ev r
  | .m x y => min (x.ev r) (y.ev r)
noncomputable def mpDot : List Nat → List Int → Int
  | c :: cs, x :: xs => (c : Int) * x + mpDot cs xs
  | _, _ => 0
noncomputable def mpAdd : List Nat → List Nat → List Nat
  | c :: cs, d :: ds => Nat.add c d :: mpAdd cs ds
  | _, _ => []
noncomputable def mpUnit : Nat → Nat → List Nat
  | 0, _ => []
  | n + 1, 0 => 1 :: mpUnit n n
  | n + 1, i + 1 => 0 :: mpUnit n i
noncomputable def mpCross (A B : List (List Nat)) : List (List Nat) := A.foldr (fun x l => B.foldr (fun y l => mpAdd x y :: l) l) []
noncomputable def mpEq : List Nat → List Nat → Bool
  | c :: cs, d :: ds => Nat.beq c d && mpEq cs ds
  | [], [] => true
  | _, _ => false
noncomputable def mpIn (x : List Nat) : List (List Nat) → Bool
  | [] => false
  | y :: l => mpEq x y || mpIn x l
noncomputable def mpUniq : List (List Nat) → List (List Nat)
  | [] => []
  | x :: l => bif mpIn x (mpUniq l) then mpUniq l else x :: mpUniq l
noncomputable def MpE.nf (n : Nat) : MpE → List (List Nat) × List (List Nat)
  | .v i => ([mpUnit n i], [mpUnit n n])
  | .z => ([mpUnit n n], [mpUnit n n])
  | .a x y => (mpUniq (mpCross (x.nf n).1 (y.nf n).1), mpUniq (mpCross (x.nf n).2 (y.nf n).2))
  | .s x y => (mpUniq (mpCross (x.nf n).1 (y.nf n).2), mpUniq (mpCross (x.nf n).2 (y.nf n).1))
  | .m x y => (mpUniq (mpCross (x.nf n).1 (y.nf n).2 ++ mpCross (x.nf n).2 (y.nf n).1), mpUniq (mpCross (x.nf n).2 (y.nf n).2))
noncomputable def mpSub (A B : List (List Nat)) : Bool := A.all fun x => mpIn x B
noncomputable def mpSame (n : Nat) (x y : MpE) : Bool :=
  let A := mpUniq (mpCross (x.nf n).1 (y.nf n).2)
  let B := mpUniq (mpCross (x.nf n).2 (y.nf n).1)
  mpSub A B && mpSub B A
noncomputable def MpL (r : List Int) (x : Int) (A : List (List Nat)) : Prop := (∃ c ∈ A, c.length = r.length ∧ x = mpDot c r) ∧ ∀ c ∈ A, c.length = r.length ∧ x ≤ mpDot c r
theorem mpAdd_len : ∀ (a b : List Nat), a.length = b.length → (mpAdd a b).length = b.length
  | [], [], _ => rfl
  | _ :: a, _ :: b, h => congrArg (· + 1) (mpAdd_len a b (Nat.succ.inj h))
  | [], _ :: _, h => absurd h.symm (Nat.succ_ne_zero _)
  | _ :: _, [], h => absurd h (Nat.succ_ne_zero _)
theorem mpAdd_dot : ∀ (a b : List Nat) (r : List Int), a.length = r.length → b.length = r.length → mpDot (mpAdd a b) r = mpDot a r + mpDot b r
  | [], [], [], _, _ => rfl
  | [], _, _ :: _, h, _ => absurd h.symm (Nat.succ_ne_zero _)
  | _, [], _ :: _, _, h => absurd h.symm (Nat.succ_ne_zero _)
  | _ :: _, _, [], h, _ => absurd h (Nat.succ_ne_zero _)
  | _, _ :: _, [], _, h => absurd h (Nat.succ_ne_zero _)
  | c :: a, d :: b, x :: r, h, h' => by
    show ((c + d : Nat) : Int) * x + _ = _
    rw [mpAdd_dot a b r (Nat.succ.inj h) (Nat.succ.inj h'), Int.natCast_add, Int.add_mul]
    show _ = ((c : Int) * x + mpDot a r) + ((d : Int) * x + mpDot b r)
    rw [Int.add_assoc, Int.add_assoc, Int.add_left_comm (mpDot a r)]
theorem mpUnit_len : ∀ n i, (mpUnit n i).length = n
  | 0, _ => rfl
  | n + 1, 0 => congrArg (· + 1) (mpUnit_len n n)
  | n + 1, i + 1 => congrArg (· + 1) (mpUnit_len n i)
theorem mpUnit_nil : ∀ (r : List Int) (n : Nat), r.length ≤ n → mpDot (mpUnit r.length n) r = 0
  | [], _, _ => rfl
  | x :: r, 0, h => absurd h (Nat.not_succ_le_zero _)
  | x :: r, n + 1, h => by
    show ((0 : Nat) : Int) * x + mpDot (mpUnit r.length n) r = 0
    rw [mpUnit_nil r n (Nat.le_of_succ_le_succ h)]
    exact (Int.add_zero _).trans (Int.zero_mul x)
theorem mpUnit_dot : ∀ (r : List Int) (i : Nat), mpDot (mpUnit r.length i) r = r.getD i 0
  | [], _ => rfl
  | x :: r, 0 => by
    show ((1 : Nat) : Int) * x + mpDot (mpUnit r.length r.length) r = x
    rw [mpUnit_nil r _ (Nat.le_refl _)]
    exact (Int.add_zero _).trans (Int.one_mul x)
  | x :: r, i + 1 => by
    show ((0 : Nat) : Int) * x + mpDot (mpUnit r.length i) r = r.getD i 0
    rw [mpUnit_dot r i]
    exact (congrArg (· + _) (Int.zero_mul x)).trans (Int.zero_add _)
theorem mpEq_is : ∀ {a b : List Nat}, mpEq a b = true → a = b
  | [], [], _ => rfl
  | c :: a, d :: b, h => by
    have h := Bool.and_eq_true_iff.mp h
    rw [Nat.eq_of_beq_eq_true h.1, mpEq_is h.2]
theorem mpIn_mem {x : List Nat} : ∀ {l : List (List Nat)}, mpIn x l = true → x ∈ l
  | y :: l, h => by
    rcases Bool.or_eq_true_iff.mp h with h | h
    · exact mpEq_is h ▸ List.Mem.head _
    · exact List.Mem.tail _ (mpIn_mem h)
theorem mpUniq_mem {x : List Nat} : ∀ {l : List (List Nat)}, x ∈ mpUniq l ↔ x ∈ l
  | [] => Iff.rfl
  | y :: l => by
    have ih := mpUniq_mem (x := x) (l := l)
    unfold mpUniq
    cases h : mpIn y (mpUniq l) with
    | true => exact ⟨fun p => List.Mem.tail _ (ih.mp p), fun p => by
        rcases List.mem_cons.mp p with e | p
        · subst e; exact mpIn_mem h
        · exact ih.mpr p⟩
    | false => exact ⟨fun p => by
        rcases List.mem_cons.mp p with e | p
        · exact e ▸ List.Mem.head _
        · exact List.Mem.tail _ (ih.mp p), fun p => by
        rcases List.mem_cons.mp p with e | p
        · exact e ▸ List.Mem.head _
        · exact List.Mem.tail _ (ih.mpr p)⟩
theorem mpRow_mem {x : List Nat} {z : List Nat} {l : List (List Nat)} : ∀ {B : List (List Nat)}, z ∈ B.foldr (fun y l => mpAdd x y :: l) l ↔ (∃ y ∈ B, z = mpAdd x y) ∨ z ∈ l
  | [] => ⟨.inr, fun h => h.elim (fun ⟨_, h, _⟩ => absurd h List.not_mem_nil) id⟩
  | b :: B => by
    have ih := mpRow_mem (x := x) (z := z) (l := l) (B := B)
    refine ⟨fun h => ?_, fun h => ?_⟩
    · rcases List.mem_cons.mp h with h | h
      · exact .inl ⟨b, .head _, h⟩
      · exact (ih.mp h).imp (fun ⟨y, h, e⟩ => ⟨y, .tail _ h, e⟩) id
    · refine List.mem_cons.mpr ?_
      rcases h with ⟨y, h, e⟩ | h
      · rcases List.mem_cons.mp h with h | h
        · exact .inl (h ▸ e)
        · exact .inr (ih.mpr (.inl ⟨y, h, e⟩))
      · exact .inr (ih.mpr (.inr h))
theorem mpCross_mem {z : List Nat} {B : List (List Nat)} : ∀ {A : List (List Nat)}, z ∈ mpCross A B ↔ ∃ x ∈ A, ∃ y ∈ B, z = mpAdd x y
  | [] => ⟨fun h => absurd h List.not_mem_nil, fun ⟨_, h, _⟩ => absurd h List.not_mem_nil⟩
  | a :: A => by
    have ih := mpCross_mem (z := z) (B := B) (A := A)
    refine Iff.trans (mpRow_mem (x := a) (l := mpCross A B)) ⟨fun h => ?_, fun ⟨x, h, y, hy, e⟩ => ?_⟩
    · rcases h with ⟨y, h, e⟩ | h
      · exact ⟨a, .head _, y, h, e⟩
      · exact let ⟨x, h, q⟩ := ih.mp h; ⟨x, .tail _ h, q⟩
    · rcases List.mem_cons.mp h with h | h
      · exact .inl ⟨y, hy, h ▸ e⟩
      · exact .inr (ih.mpr ⟨x, h, y, hy, e⟩)
variable {r : List Int}
theorem MpL.uniq {x : Int} {A : List (List Nat)} (h : MpL r x A) : MpL r x (mpUniq A) :=
  ⟨let ⟨c, hc, q⟩ := h.1; ⟨c, mpUniq_mem.mpr hc, q⟩, fun c hc => h.2 c (mpUniq_mem.mp hc)⟩
theorem MpL.cross {x y : Int} {A B : List (List Nat)} (h : MpL r x A) (h' : MpL r y B) : MpL r (x + y) (mpCross A B) := by
  refine ⟨?_, fun z hz => ?_⟩
  · obtain ⟨c, hc, l, rfl⟩ := h.1
    obtain ⟨d, hd, l', rfl⟩ := h'.1
    exact ⟨_, mpCross_mem.mpr ⟨c, hc, d, hd, rfl⟩, (mpAdd_len _ _ (l.trans l'.symm)).trans l', (mpAdd_dot _ _ _ l l').symm⟩
  · obtain ⟨c, hc, d, hd, rfl⟩ := mpCross_mem.mp hz
    obtain ⟨l, e⟩ := h.2 c hc
    obtain ⟨l', e'⟩ := h'.2 d hd
    exact ⟨(mpAdd_len _ _ (l.trans l'.symm)).trans l', (mpAdd_dot _ _ _ l l').symm ▸ Int.add_le_add e e'⟩
theorem MpL.app {x y : Int} {A B : List (List Nat)} (h : MpL r x A) (h' : MpL r y B) : MpL r (min x y) (A ++ B) := by
  refine ⟨?_, fun z hz => ?_⟩
  · rcases Int.le_total x y with e | e
    · rw [Int.min_eq_left e]; exact let ⟨c, hc, q⟩ := h.1; ⟨c, List.mem_append_left _ hc, q⟩
    · rw [Int.min_eq_right e]; exact let ⟨c, hc, q⟩ := h'.1; ⟨c, List.mem_append_right _ hc, q⟩
  · rcases List.mem_append.mp hz with hz | hz
    · exact ⟨(h.2 z hz).1, Int.le_trans (Int.min_le_left _ _) (h.2 z hz).2⟩
    · exact ⟨(h'.2 z hz).1, Int.le_trans (Int.min_le_right _ _) (h'.2 z hz).2⟩
theorem MpL.one {x : Int} {i : Nat} (h : mpDot (mpUnit r.length i) r = x) : MpL r x [mpUnit r.length i] :=
  ⟨⟨_, .head _, mpUnit_len _ _, h.symm⟩, fun c hc => by rw [List.mem_singleton.mp hc]; exact ⟨mpUnit_len _ _, Int.le_of_eq h.symm⟩⟩
theorem MpE.nf_is : ∀ e : MpE, ∃ p q, MpL r p (e.nf r.length).1 ∧ MpL r q (e.nf r.length).2 ∧ e.ev r = p - q
  | .v i => ⟨_, _, MpL.one (mpUnit_dot r i), MpL.one (mpUnit_nil r _ (Nat.le_refl _)), (Int.sub_zero _).symm⟩
  | .z => ⟨_, _, MpL.one (mpUnit_nil r _ (Nat.le_refl _)), MpL.one (mpUnit_nil r _ (Nat.le_refl _)), (Int.sub_zero _).symm⟩
  | .a x y => by
    obtain ⟨p, q, hp, hq, e⟩ := nf_is x
    obtain ⟨p', q', hp', hq', e'⟩ := nf_is y
    refine ⟨_, _, (hp.cross hp').uniq, (hq.cross hq').uniq, ?_⟩
    show x.ev r + y.ev r = _
    rw [e, e']; omega
  | .s x y => by
    obtain ⟨p, q, hp, hq, e⟩ := nf_is x
    obtain ⟨p', q', hp', hq', e'⟩ := nf_is y
    refine ⟨_, _, (hp.cross hq').uniq, (hq.cross hp').uniq, ?_⟩
    show x.ev r - y.ev r = _
    rw [e, e']; omega
  | .m x y => by
    obtain ⟨p, q, hp, hq, e⟩ := nf_is x
    obtain ⟨p', q', hp', hq', e'⟩ := nf_is y
    refine ⟨_, _, ((hp.cross hq').app (hq.cross hp')).uniq, (hq.cross hq').uniq, ?_⟩
    show min (x.ev r) (y.ev r) = _
    rw [e, e']; omega
theorem mpSub_is {A B : List (List Nat)} (h : mpSub A B = true) : ∀ c ∈ A, c ∈ B := fun c hc => mpIn_mem (List.all_eq_true.mp h c hc)
theorem MpL.le {x y : Int} {A B : List (List Nat)} (h : MpL r x A) (h' : MpL r y B) (s : ∀ c ∈ B, c ∈ A) : x ≤ y := by
  obtain ⟨c, hc, _, rfl⟩ := h'.1
  exact (h.2 c (s c hc)).2
theorem mp_eq (n : Nat) (r : List Int) (x y : MpE) (hl : r.length = n) (h : mpSame n x y = true) : x.ev r = y.ev r := by
  subst hl
  obtain ⟨p, q, hp, hq, e⟩ := x.nf_is (r := r)
  obtain ⟨p', q', hp', hq', e'⟩ := y.nf_is (r := r)
  have h := Bool.and_eq_true_iff.mp h
  have h1 := mpSub_is h.1
  have h2 := mpSub_is h.2
  have a := (hp.cross hq').uniq.le (hq.cross hp').uniq h2
  have b := (hq.cross hp').uniq.le (hp.cross hq').uniq h1
  rw [e, e']; omega
end
section
theorem mn_le (a b : Int) : mn a b = min a b := by unfold mn; split <;> omega
theorem gvs_back (f b : Th) : gvs (backT f b) (frontT f b) = gvs f b := by
  simp only [gvs, tks, backT, frontT, mor, mn_le]
  exact mp_eq 4 [b.l, f.l, b.r, f.r] (.m (.a (.v 0) (.s (.m (.v 1) (.v 2)) (.m (.v 0) (.v 3)))) (.a (.v 3) (.s (.m (.v 1) (.v 2)) (.m (.v 0) (.v 3))))) (.m (.v 1) (.v 2)) rfl (by decide +kernel)
theorem tks_back (f b : Th) : tks (backT f b) (frontT f b) = tks f b := by
  simp only [gvs, tks, backT, frontT, mor, mn_le]
  exact mp_eq 4 [f.l, b.r, b.l, f.r] (.m (.s (.v 0) (.s (.m (.v 0) (.v 1)) (.m (.v 2) (.v 3)))) (.s (.v 1) (.s (.m (.v 0) (.v 1)) (.m (.v 2) (.v 3))))) (.m (.v 2) (.v 3)) rfl (by decide +kernel)
theorem mor_back (f b : Th) : mor (backT f b) (frontT f b) = mor f b := by
  rw [mor, gvs_back, tks_back, mor]
theorem back_back (f b : Th) : backT (backT f b) (frontT f b) = f := by
  have h := mor_back f b
  cases f; cases b
  simp only [backT, frontT] at *
  rw [h]
  simp only [Th.mk.injEq, true_and]
  omega
theorem front_back (f b : Th) : frontT (backT f b) (frontT f b) = b := by
  have h := mor_back f b
  cases f; cases b
  simp only [backT, frontT] at *
  rw [h]
  simp only [Th.mk.injEq, true_and]
  omega
theorem tollStep_len (s : Int) (T : List Int) (t : Th) (h : 1 ≤ T.length) : (tollStep s T t).length = T.length + 1 := by
  simp [tollStep]; omega
theorem backB_frontB (f b : Th) (x : Bk) : backB (backT f b) (frontT f b) (frontB f b x) = x := by
  have h1 := gvs_back f b
  have h2 := tks_back f b
  have h3 := mor_back f b
  cases x
  simp only [backB, frontB]
  rw [h1, h2, h3]
  simp only [Bk.mk.injEq]
  refine ⟨by omega, by omega, by omega, by omega, ?_⟩
  funext i
  simp only [backT]
  split <;> omega
theorem frontB_backB (f b : Th) (x : Bk) : frontB (backT f b) (frontT f b) (backB f b x) = x := by
  have h1 := gvs_back f b
  have h2 := tks_back f b
  have h3 := mor_back f b
  cases x
  simp only [backB, frontB]
  rw [h1, h2, h3]
  simp only [Bk.mk.injEq]
  refine ⟨by omega, by omega, by omega, by omega, ?_⟩
  funext i
  simp only [frontT]
  split <;> omega
theorem past_past {σ : St} {k : Nat} {f b : Th} (ef : σ.row[k]? = some f) (eb : σ.row[k + 1]? = some b) (hne : f.nm ≠ b.nm) : past (past σ k) k = σ := by
  obtain ⟨hk, gf⟩ := List.getElem?_eq_some_iff.mp ef
  obtain ⟨hk1, gb⟩ := List.getElem?_eq_some_iff.mp eb
  have e1 : past σ k = ⟨(σ.row.set k (backT f b)).set (k + 1) (frontT f b), fun n => if n = b.nm then backB f b (σ.bk n) else if n = f.nm then frontB f b (σ.bk n) else σ.bk n⟩ := by
    unfold past; rw [ef, eb]
  have r1 : ((σ.row.set k (backT f b)).set (k + 1) (frontT f b))[k]? = some (backT f b) := by
    rw [List.getElem?_set_ne (by omega), List.getElem?_set_self hk]
  have r2 : ((σ.row.set k (backT f b)).set (k + 1) (frontT f b))[k + 1]? = some (frontT f b) := by
    rw [List.getElem?_set_self (by simpa using hk1)]
  rw [e1]
  unfold past
  simp only [r1, r2, back_back, front_back]
  cases σ with
  | mk row bk =>
    simp only [St.mk.injEq]
    dsimp only at gf gb hk hk1
    refine ⟨?_, ?_⟩
    · apply List.ext_getElem?
      intro i
      simp only [List.getElem?_set, List.length_set]
      by_cases h1 : k + 1 = i
      · subst h1; simp [hk1, gb]
      · by_cases h2 : k = i
        · subst h2; simp [hk, gf]
        · simp [h1, h2]
    · funext n
      by_cases h1 : n = f.nm
      · subst h1
        simp [frontT, backT, hne, backB_frontB f b]
        exact backB_frontB f b _
      · by_cases h2 : n = b.nm
        · subst h2
          simp [frontT, backT, hne, h1]
          exact frontB_backB f b _
        · simp [frontT, backT, h1, h2]
end
section
theorem gsum {xl xr yl yr zr g1 t1 g2 : Int} (h1 : g1 = min xl yr) (k1 : t1 = min yl xr) (h2 : g2 = min (xl - (g1 - t1)) zr) : g1 + g2 = min (xl + min zr yl) (min (yr + zr) (xl + xr)) := by
  subst h1 k1 h2
  exact mp_eq 5 [xl, yr, yl, xr, zr] (.a (.m (.v 0) (.v 1)) (.m (.s (.v 0) (.s (.m (.v 0) (.v 1)) (.m (.v 2) (.v 3)))) (.v 4))) (.m (.a (.v 0) (.m (.v 4) (.v 2))) (.m (.a (.v 1) (.v 4)) (.a (.v 0) (.v 3)))) rfl (by decide +kernel)
theorem yb_core (xl xr yl yr zl zr g1 t1 g2 t2 g3 t3 g4 t4 g5 t5 g6 t6 : Int)
  (h1 : g1 = min xl yr) (k1 : t1 = min yl xr)
  (h2 : g2 = min (xl - (g1 - t1)) zr) (_k2 : t2 = min zl (xr + (g1 - t1)))
  (_h3 : g3 = min (yl + (g1 - t1)) (zr - (g2 - t2))) (_k3 : t3 = min (zl + (g2 - t2)) (yr - (g1 - t1)))
  (h4 : g4 = min yl zr) (k4 : t4 = min zl yr)
  (h5 : g5 = min xl (zr - (g4 - t4))) (k5 : t5 = min (zl + (g4 - t4)) xr)
  (h6 : g6 = min (xl - (g5 - t5)) (yr + (g4 - t4))) (_k6 : t6 = min (yl - (g4 - t4)) (xr + (g5 - t5))) :
  g1 + g2 = g5 + g6 := by
  rw [gsum h1 k1 h2, gsum h5 k5 h6]
  have e1 : min (yr + (g4 - t4)) (zl + (g4 - t4)) = min zr yl := by
    rw [h4, k4]
    exact mp_eq 4 [yr, yl, zr, zl] (.m (.a (.v 0) (.s (.m (.v 1) (.v 2)) (.m (.v 3) (.v 0)))) (.a (.v 3) (.s (.m (.v 1) (.v 2)) (.m (.v 3) (.v 0))))) (.m (.v 2) (.v 1)) rfl (by decide +kernel)
  have e2 : zr - (g4 - t4) + (yr + (g4 - t4)) = yr + zr := mp_eq 4 [zr, g4, t4, yr] (.a (.s (.v 0) (.s (.v 1) (.v 2))) (.a (.v 3) (.s (.v 1) (.v 2)))) (.a (.v 3) (.v 0)) rfl (by decide +kernel)
  rw [e1, e2]
end
section
theorem yb_t (xl xr yl yr zl zr g1 t1 g2 t2 g3 t3 g4 t4 g5 t5 g6 t6 : Int)
  (h1 : g1 = min xl yr) (k1 : t1 = min yl xr)
  (h2 : g2 = min (xl - (g1 - t1)) zr) (k2 : t2 = min zl (xr + (g1 - t1)))
  (h3 : g3 = min (yl + (g1 - t1)) (zr - (g2 - t2))) (k3 : t3 = min (zl + (g2 - t2)) (yr - (g1 - t1)))
  (h4 : g4 = min yl zr) (k4 : t4 = min zl yr)
  (h5 : g5 = min xl (zr - (g4 - t4))) (k5 : t5 = min (zl + (g4 - t4)) xr)
  (h6 : g6 = min (xl - (g5 - t5)) (yr + (g4 - t4))) (k6 : t6 = min (yl - (g4 - t4)) (xr + (g5 - t5))) : t1 + t2 = t5 + t6 := by
  have c : ∀ a b : Int, min a b = min b a := fun a b => Int.min_comm a b
  have n : ∀ a g t : Int, a - (t - g) = a + (g - t) := by intros; omega
  have p : ∀ a g t : Int, a + (t - g) = a - (g - t) := by intros; omega
  exact yb_core xr xl yr yl zr zl t1 g1 t2 g2 t3 g3 t4 g4 t5 g5 t6 g6 (by rw [c]; exact k1) (by rw [c]; exact h1) (by rw [n, c]; exact k2) (by rw [p, c]; exact h2) (by rw [n zl, p yr, c]; exact k3) (by rw [p zr, n yl, c]; exact h3)
    (by rw [c]; exact k4) (by rw [c]; exact h4) (by rw [n, c]; exact k5) (by rw [p, c]; exact h5) (by rw [n xr, p yl, c]; exact k6) (by rw [n yr, p xl, c]; exact h6)
theorem yb_all (xl xr yl yr zl zr g1 t1 g2 t2 g3 t3 g4 t4 g5 t5 g6 t6 : Int)
  (h1 : g1 = min xl yr) (k1 : t1 = min yl xr)
  (h2 : g2 = min (xl - (g1 - t1)) zr) (k2 : t2 = min zl (xr + (g1 - t1)))
  (h3 : g3 = min (yl + (g1 - t1)) (zr - (g2 - t2))) (k3 : t3 = min (zl + (g2 - t2)) (yr - (g1 - t1)))
  (h4 : g4 = min yl zr) (k4 : t4 = min zl yr)
  (h5 : g5 = min xl (zr - (g4 - t4))) (k5 : t5 = min (zl + (g4 - t4)) xr)
  (h6 : g6 = min (xl - (g5 - t5)) (yr + (g4 - t4))) (k6 : t6 = min (yl - (g4 - t4)) (xr + (g5 - t5))) :
  g1 + g2 = g5 + g6 ∧ t1 + t2 = t5 + t6 ∧ g2 + g3 = g4 + g5 ∧ t2 + t3 = t4 + t5 := by
  have c : ∀ a b : Int, min a b = min b a := fun a b => Int.min_comm a b
  refine ⟨yb_core xl xr yl yr zl zr g1 t1 g2 t2 g3 t3 g4 t4 g5 t5 g6 t6 h1 k1 h2 k2 h3 k3 h4 k4 h5 k5 h6 k6, yb_t xl xr yl yr zl zr g1 t1 g2 t2 g3 t3 g4 t4 g5 t5 g6 t6 h1 k1 h2 k2 h3 k3 h4 k4 h5 k5 h6 k6, ?_, ?_⟩
  · have z := yb_core zr zl yr yl xr xl g4 t4 g5 t5 g6 t6 g1 t1 g2 t2 g3 t3 (by rw [c]; exact h4) (by rw [c]; exact k4) (by rw [c]; exact h5) (by rw [c]; exact k5) (by rw [c]; exact h6) (by rw [c]; exact k6) (by rw [c]; exact h1) (by rw [c]; exact k1) (by rw [c]; exact h2) (by rw [c]; exact k2) (by rw [c]; exact h3) (by rw [c]; exact k3)
    exact z.symm
  · have z := yb_t zr zl yr yl xr xl g4 t4 g5 t5 g6 t6 g1 t1 g2 t2 g3 t3 (by rw [c]; exact h4) (by rw [c]; exact k4) (by rw [c]; exact h5) (by rw [c]; exact k5) (by rw [c]; exact h6) (by rw [c]; exact k6) (by rw [c]; exact h1) (by rw [c]; exact k1) (by rw [c]; exact h2) (by rw [c]; exact k2) (by rw [c]; exact h3) (by rw [c]; exact k3)
    exact z.symm
end
section
theorem yb_nums (x y z : Th) :
    let a := backT x y; let x1 := frontT x y
    let b := backT x1 z
    let p := backT y z; let y1 := frontT y z
    let x3 := frontT x p
    gvs x y + gvs x1 z = gvs x p + gvs x3 y1 ∧ tks x y + tks x1 z = tks x p + tks x3 y1 ∧ gvs x1 z + gvs a b = gvs y z + gvs x p ∧ tks x1 z + tks a b = tks y z + tks x p := by
  intro a x1 b p y1 x3
  exact yb_all x.l x.r y.l y.r z.l z.r (gvs x y) (tks x y) (gvs x1 z) (tks x1 z) (gvs a b) (tks a b) (gvs y z) (tks y z) (gvs x p) (tks x p) (gvs x3 y1) (tks x3 y1)
    (mn_le _ _) (mn_le _ _) (mn_le _ _) (mn_le _ _) (mn_le _ _) (mn_le _ _) (mn_le _ _) (mn_le _ _) (mn_le _ _) (mn_le _ _) (mn_le _ _) (mn_le _ _)
end
section
theorem yb_m {a b c d a' b' c' d' : Int} (h : a + b = c + d) (h' : a' + b' = c' + d') : (a - a') + (b - b') = (c - c') + (d - d') := by omega
theorem yb_l1 {a b c d v : Int} (h : a + b = c + d) : v + a + b = v + c + d := by omega
theorem yb_l2 {a b c d v : Int} (h : a + b = c + d) : v - a - b = v - c - d := by omega
theorem yb_l3 {A B C D E F v : Int} (h1 : A + B = E + F) (h2 : B + C = D + E) : v + A - C = v - D + F := by omega
theorem yb_l4 {A B C D E F v : Int} (h1 : A + B = E + F) (h2 : B + C = D + E) : v - A + C = v + D - F := by omega
theorem yb_b1 {a b c d v : Int} (h : a + b = c + d) : b + (a + v) = d + (c + v) := by omega
theorem yb_b2 {a b c d v : Int} (h : a + b = c + d) : -b + (-a + v) = -d + (-c + v) := by omega
theorem yb_b3 {A B C D E F v : Int} (h1 : A + B = E + F) (h2 : B + C = D + E) : -C + (A + v) = F + (-D + v) := by omega
theorem yb_b4 {A B C D E F v : Int} (h1 : A + B = E + F) (h2 : B + C = D + E) : C + (-A + v) = -F + (D + v) := by omega
theorem yb_things (x y z : Th) :
    let a := backT x y; let x1 := frontT x y
    let b := backT x1 z; let x2 := frontT x1 z
    let c := backT a b; let a2 := frontT a b
    let p := backT y z; let y1 := frontT y z
    let q := backT x p; let x3 := frontT x p
    let r := backT x3 y1; let x4 := frontT x3 y1
    c = q ∧ a2 = r ∧ x2 = x4 := by
  intro a x1 b x2 c a2 p y1 q x3 r x4
  obtain ⟨e1, e2, e3, e4⟩ := yb_nums x y z
  change gvs x y + gvs x1 z = gvs x p + gvs x3 y1 at e1
  change tks x y + tks x1 z = tks x p + tks x3 y1 at e2
  change gvs x1 z + gvs a b = gvs y z + gvs x p at e3
  change tks x1 z + tks a b = tks y z + tks x p at e4
  have m1 : mor x y + mor x1 z = mor x p + mor x3 y1 := yb_m e1 e2
  have m2 : mor x1 z + mor a b = mor y z + mor x p := yb_m e3 e4
  refine ⟨?_, ?_, ?_⟩
  · show Th.mk _ _ _ = Th.mk _ _ _
    simp only [Th.mk.injEq]
    exact ⟨rfl, yb_l1 m2, yb_l2 m2⟩
  · show Th.mk _ _ _ = Th.mk _ _ _
    simp only [Th.mk.injEq]
    exact ⟨rfl, yb_l3 m1 m2, yb_l4 m1 m2⟩
  · show Th.mk _ _ _ = Th.mk _ _ _
    simp only [Th.mk.injEq]
    exact ⟨rfl, yb_l2 m1, yb_l1 m1⟩
end
section
set_option maxRecDepth 10000
noncomputable def upd (f b : Th) (bk : Int → Bk) : Int → Bk := fun n => if n = b.nm then backB f b (bk n) else if n = f.nm then frontB f b (bk n) else bk n
theorem past_0 (a b c d : Th) (bk : Int → Bk) : past ⟨[a, b, c, d], bk⟩ 0 = ⟨[backT a b, frontT a b, c, d], upd a b bk⟩ := rfl
theorem past_1 (a b c d : Th) (bk : Int → Bk) : past ⟨[a, b, c, d], bk⟩ 1 = ⟨[a, backT b c, frontT b c, d], upd b c bk⟩ := rfl
theorem past_2 (a b c d : Th) (bk : Int → Bk) : past ⟨[a, b, c, d], bk⟩ 2 = ⟨[a, b, backT c d, frontT c d], upd c d bk⟩ := rfl
theorem bk_ext {x y : Bk} (h1 : x.on = y.on) (h2 : x.mo = y.mo) (h3 : x.gv = y.gv) (h4 : x.tk = y.tk) (h5 : ∀ i, x.c i = y.c i) : x = y := by
  cases x; cases y
  simp only [Bk.mk.injEq]
  exact ⟨h1, h2, h3, h4, funext h5⟩
theorem upd_b {f b : Th} {bk : Int → Bk} {n : Int} (h : n = b.nm) : upd f b bk n = backB f b (bk n) := if_pos h
theorem upd_f {f b : Th} {bk : Int → Bk} {n : Int} (h : n ≠ b.nm) (h' : n = f.nm) : upd f b bk n = frontB f b (bk n) := (if_neg h).trans (if_pos h')
theorem upd_o {f b : Th} {bk : Int → Bk} {n : Int} (h : n ≠ b.nm) (h' : n ≠ f.nm) : upd f b bk n = bk n := (if_neg h).trans (if_neg h')
theorem bk_ff {f1 b1 f2 b2 f3 b3 f4 b4 : Th} {β : Bk} (m : mor f1 b1 + mor f2 b2 = mor f3 b3 + mor f4 b4) (g : gvs f1 b1 + gvs f2 b2 = gvs f3 b3 + gvs f4 b4) (t : tks f1 b1 + tks f2 b2 = tks f3 b3 + tks f4 b4) (n1 : b1.nm = b4.nm) (n2 : b2.nm = b3.nm) :
    frontB f2 b2 (frontB f1 b1 β) = frontB f4 b4 (frontB f3 b3 β) :=
  bk_ext rfl (yb_b2 m) (yb_b1 g) (yb_b1 t) fun i => by
    show β.c i + (if b1.nm = i then 1 else 0) + (if b2.nm = i then 1 else 0) = β.c i + (if b3.nm = i then 1 else 0) + (if b4.nm = i then 1 else 0)
    rw [n1, n2]; exact Int.add_right_comm _ _ _
theorem bk_bb {f1 b1 f2 b2 f3 b3 f4 b4 : Th} {β : Bk} (m : mor f1 b1 + mor f2 b2 = mor f3 b3 + mor f4 b4) (g : gvs f1 b1 + gvs f2 b2 = gvs f3 b3 + gvs f4 b4) (t : tks f1 b1 + tks f2 b2 = tks f3 b3 + tks f4 b4) (n1 : f1.nm = f4.nm) (n2 : f2.nm = f3.nm) :
    backB f2 b2 (backB f1 b1 β) = backB f4 b4 (backB f3 b3 β) :=
  bk_ext rfl (yb_b1 m) (yb_b2 g) (yb_b2 t) fun i => by
    show β.c i + (if f1.nm = i then -1 else 0) + (if f2.nm = i then -1 else 0) = β.c i + (if f3.nm = i then -1 else 0) + (if f4.nm = i then -1 else 0)
    rw [n1, n2]; exact Int.add_right_comm _ _ _
theorem bk_bf {x y x1 z a b p x3 y1 : Th} {β : Bk} (m1 : mor x y + mor x1 z = mor x p + mor x3 y1) (m2 : mor x1 z + mor a b = mor y z + mor x p) (g1 : gvs x y + gvs x1 z = gvs x p + gvs x3 y1) (g2 : gvs x1 z + gvs a b = gvs y z + gvs x p) (t1 : tks x y + tks x1 z = tks x p + tks x3 y1) (t2 : tks x1 z + tks a b = tks y z + tks x p)
    (n1 : b.nm = z.nm) (n2 : x3.nm = x.nm) : frontB a b (backB x y β) = backB x3 y1 (frontB y z β) :=
  bk_ext (Int.add_left_comm _ _ _) (yb_b3 m1 m2) (yb_b4 g1 g2) (yb_b4 t1 t2) fun i => by
    show β.c i + (if x.nm = i then -1 else 0) + (if b.nm = i then 1 else 0) = β.c i + (if z.nm = i then 1 else 0) + (if x3.nm = i then -1 else 0)
    rw [n1, n2]; exact Int.add_right_comm _ _ _
theorem yb_books (x y z : Th) (bk : Int → Bk) (hxy : x.nm ≠ y.nm) (hxz : x.nm ≠ z.nm) (hyz : y.nm ≠ z.nm) :
    upd (backT x y) (backT (frontT x y) z) (upd (frontT x y) z (upd x y bk)) = upd (frontT x (backT y z)) (frontT y z) (upd x (backT y z) (upd y z bk)) := by
  obtain ⟨e1, e2, e3, e4⟩ := yb_nums x y z
  have m1 := yb_m e1 e2
  have m2 := yb_m e3 e4
  funext n
  by_cases h1 : n = x.nm
  · subst h1
    rw [upd_o (b := backT (frontT x y) z) (f := backT x y) hxz hxy, upd_f (b := z) (f := frontT x y) hxz rfl, upd_f (b := y) hxy rfl, upd_f (b := frontT y z) (f := frontT x (backT y z)) hxy rfl, upd_f (b := backT y z) (f := x) hxz rfl, upd_o (b := z) (f := y) hxz hxy]
    exact bk_ff m1 e1 e2 rfl rfl
  · by_cases h2 : n = y.nm
    · subst h2
      rw [upd_f (b := backT (frontT x y) z) (f := backT x y) hyz rfl, upd_o (b := z) (f := frontT x y) hyz h1, upd_b (n := y.nm) (b := y) rfl, upd_b (n := y.nm) (b := frontT y z) (f := frontT x (backT y z)) rfl, upd_o (b := backT y z) (f := x) hyz h1, upd_f (b := z) (f := y) hyz rfl]
      exact bk_bf m1 m2 e1 e3 e2 e4 rfl rfl
    · by_cases h3 : n = z.nm
      · subst h3
        rw [upd_b (n := z.nm) (b := backT (frontT x y) z) (f := backT x y) rfl, upd_b (n := z.nm) (b := z) (f := frontT x y) rfl, upd_o (b := y) (f := x) h2 h1, upd_o (b := frontT y z) (f := frontT x (backT y z)) h2 h1, upd_b (n := z.nm) (b := backT y z) (f := x) rfl, upd_b (n := z.nm) (b := z) (f := y) rfl]
        exact bk_bb m2 e3 e4 rfl rfl
      · rw [upd_o (b := backT (frontT x y) z) (f := backT x y) h3 h2, upd_o (b := z) (f := frontT x y) h3 h1, upd_o (b := y) (f := x) h2 h1, upd_o (b := frontT y z) (f := frontT x (backT y z)) h2 h1, upd_o (b := backT y z) (f := x) h3 h1, upd_o (b := z) (f := y) h3 h2]
theorem braid0 {a b c d : Th} {bk : Int → Bk} (h1 : a.nm ≠ b.nm) (h2 : a.nm ≠ c.nm) (h3 : b.nm ≠ c.nm) : past (past (past ⟨[a, b, c, d], bk⟩ 0) 1) 0 = past (past (past ⟨[a, b, c, d], bk⟩ 1) 0) 1 := by
  simp only [past_0, past_1]
  obtain ⟨e1, e2, e3⟩ := yb_things a b c
  rw [yb_books a b c bk h1 h2 h3]
  simp only [St.mk.injEq, List.cons.injEq, and_true]
  exact ⟨e1, e2, e3⟩
theorem braid1 {a b c d : Th} {bk : Int → Bk} (h1 : b.nm ≠ c.nm) (h2 : b.nm ≠ d.nm) (h3 : c.nm ≠ d.nm) : past (past (past ⟨[a, b, c, d], bk⟩ 1) 2) 1 = past (past (past ⟨[a, b, c, d], bk⟩ 2) 1) 2 := by
  simp only [past_1, past_2]
  obtain ⟨e1, e2, e3⟩ := yb_things b c d
  rw [yb_books b c d bk h1 h2 h3]
  simp only [St.mk.injEq, List.cons.injEq, and_true, true_and]
  exact ⟨e1, e2, e3⟩
theorem upd_comm {a b c d : Th} {bk : Int → Bk} (h1 : a.nm ≠ c.nm) (h2 : a.nm ≠ d.nm) (h3 : b.nm ≠ c.nm) (h4 : b.nm ≠ d.nm) : upd c d (upd a b bk) = upd a b (upd c d bk) := by
  funext n
  simp only [upd]
  by_cases g1 : n = a.nm
  · subst g1; simp [h1, h2]
  · by_cases g2 : n = b.nm
    · subst g2; simp [h3, h4]
    · simp [g1, g2]
theorem far02 {a b c d : Th} {bk : Int → Bk} (h1 : a.nm ≠ c.nm) (h2 : a.nm ≠ d.nm) (h3 : b.nm ≠ c.nm) (h4 : b.nm ≠ d.nm) : past (past ⟨[a, b, c, d], bk⟩ 0) 2 = past (past ⟨[a, b, c, d], bk⟩ 2) 0 := by
  simp only [past_0, past_2, upd_comm h1 h2 h3 h4]
noncomputable def Good (σ : St) : Prop := ∃ a b c d, σ.row = [a, b, c, d] ∧ a.nm ≠ b.nm ∧ a.nm ≠ c.nm ∧ a.nm ≠ d.nm ∧ b.nm ≠ c.nm ∧ b.nm ≠ d.nm ∧ c.nm ≠ d.nm
noncomputable def nms (σ : St) : List Int := σ.row.map (·.nm)
noncomputable def swp : List Int → Nat → List Int
  | [a, b, c, d], 0 => [b, a, c, d]
  | [a, b, c, d], 1 => [a, c, b, d]
  | [a, b, c, d], 2 => [a, b, d, c]
  | l, _ => l
theorem nms_past {σ : St} (h : Good σ) {k : Nat} (hk : k < 3) : nms (past σ k) = swp (nms σ) k := by
  obtain ⟨a, b, c, d, hr, _⟩ := h
  cases σ with
  | mk row bk =>
    dsimp only at hr
    subst hr
    have : k = 0 ∨ k = 1 ∨ k = 2 := by omega
    rcases this with rfl | rfl | rfl <;> rfl
theorem good_past {σ : St} (h : Good σ) {k : Nat} (hk : k < 3) : Good (past σ k) := by
  obtain ⟨a, b, c, d, hr, h1, h2, h3, h4, h5, h6⟩ := h
  cases σ with
  | mk row bk =>
    dsimp only at hr
    subst hr
    have : k = 0 ∨ k = 1 ∨ k = 2 := by omega
    rcases this with rfl | rfl | rfl
    · exact ⟨_, _, _, _, rfl, h1.symm, h4, h5, h2, h3, h6⟩
    · exact ⟨_, _, _, _, rfl, h2, h1, h3, h4.symm, h6, h5⟩
    · exact ⟨_, _, _, _, rfl, h1, h3, h2, h5, h4, h6.symm⟩
theorem pp {σ : St} (h : Good σ) {k : Nat} (hk : k < 3) : past (past σ k) k = σ := by
  obtain ⟨a, b, c, d, hr, h1, h2, h3, h4, h5, h6⟩ := h
  have : k = 0 ∨ k = 1 ∨ k = 2 := by omega
  rcases this with rfl | rfl | rfl
  · exact past_past (f := a) (b := b) (by rw [hr]; rfl) (by rw [hr]; rfl) h1
  · exact past_past (f := b) (b := c) (by rw [hr]; rfl) (by rw [hr]; rfl) h4
  · exact past_past (f := c) (b := d) (by rw [hr]; rfl) (by rw [hr]; rfl) h6
theorem b01 {σ : St} (h : Good σ) : past (past (past σ 0) 1) 0 = past (past (past σ 1) 0) 1 := by
  obtain ⟨a, b, c, d, hr, h1, h2, h3, h4, h5, h6⟩ := h
  cases σ with
  | mk row bk => dsimp only at hr; subst hr; exact braid0 h1 h2 h4
theorem b12 {σ : St} (h : Good σ) : past (past (past σ 1) 2) 1 = past (past (past σ 2) 1) 2 := by
  obtain ⟨a, b, c, d, hr, h1, h2, h3, h4, h5, h6⟩ := h
  cases σ with
  | mk row bk => dsimp only at hr; subst hr; exact braid1 h4 h5 h6
theorem f02 {σ : St} (h : Good σ) : past (past σ 0) 2 = past (past σ 2) 0 := by
  obtain ⟨a, b, c, d, hr, h1, h2, h3, h4, h5, h6⟩ := h
  cases σ with
  | mk row bk => dsimp only at hr; subst hr; exact far02 h2 h3 h4 h5
noncomputable def way (σ : St) (ks : List Nat) : St := ks.foldl past σ
theorem good_way {σ : St} (h : Good σ) : ∀ {ks : List Nat}, (∀ k ∈ ks, k < 3) → Good (way σ ks)
  | [], _ => h
  | k :: r, hk => good_way (good_past h (hk k (.head _))) fun q hq => hk q (.tail _ hq)
theorem way_app (σ : St) (ks ls : List Nat) : way σ (ks ++ ls) = way (way σ ks) ls := List.foldl_append ..
noncomputable def t3 (σ : St) : Nat → St
  | 0 => σ
  | 1 => past σ 2
  | 2 => past (past σ 2) 1
  | _ => past (past (past σ 2) 1) 0
noncomputable def t2 (σ : St) : Nat → St
  | 0 => σ
  | 1 => past σ 1
  | _ => past (past σ 1) 0
noncomputable def t1 (σ : St) : Nat → St
  | 0 => σ
  | _ => past σ 0
noncomputable def nf (σ : St) (i j k : Nat) : St := t3 (t2 (t1 σ i) j) k
theorem act1 {σ : St} (h : Good σ) (i : Nat) (hi : i < 2) : ∃ i', i' < 2 ∧ past (t1 σ i) 0 = t1 σ i' := by
  have : i = 0 ∨ i = 1 := by omega
  rcases this with rfl | rfl
  · exact ⟨1, by decide, rfl⟩
  · exact ⟨0, by decide, pp h (by decide)⟩
theorem good_t1 {σ : St} (h : Good σ) (i : Nat) : Good (t1 σ i) := by
  unfold t1; split
  · exact h
  · exact good_past h (by decide)
theorem good_t2 {σ : St} (h : Good σ) (i : Nat) : Good (t2 σ i) := by
  unfold t2; split
  · exact h
  · exact good_past h (by decide)
  · exact good_past (good_past h (by decide)) (by decide)
theorem act2 {σ : St} (h : Good σ) (i j : Nat) (hi : i < 2) (hj : j < 3) (k : Nat) (hk : k < 2) : ∃ i' j', i' < 2 ∧ j' < 3 ∧ past (t2 (t1 σ i) j) k = t2 (t1 σ i') j' := by
  have g1 := good_t1 h i
  have hj' : j = 0 ∨ j = 1 ∨ j = 2 := by omega
  have hk' : k = 0 ∨ k = 1 := by omega
  rcases hj' with rfl | rfl | rfl <;> rcases hk' with rfl | rfl
  · obtain ⟨i', h1, h2⟩ := act1 h i hi
    exact ⟨i', 0, h1, by decide, h2⟩
  · exact ⟨i, 1, hi, by decide, rfl⟩
  · exact ⟨i, 2, hi, by decide, rfl⟩
  · exact ⟨i, 0, hi, by decide, pp g1 (by decide)⟩
  · exact ⟨i, 1, hi, by decide, pp (good_past g1 (by decide)) (by decide)⟩
  · obtain ⟨i', h1, h2⟩ := act1 h i hi
    refine ⟨i', 2, h1, by decide, ?_⟩
    show past (past (past (t1 σ i) 1) 0) 1 = past (past (t1 σ i') 1) 0
    rw [← h2, b01 g1]
theorem act3 {σ : St} (h : Good σ) (i j l : Nat) (hi : i < 2) (hj : j < 3) (hl : l < 4) (k : Nat) (hk : k < 3) : ∃ i' j' l', i' < 2 ∧ j' < 3 ∧ l' < 4 ∧ past (nf σ i j l) k = nf σ i' j' l' := by
  have g := good_t2 (good_t1 h i) j
  have hl' : l = 0 ∨ l = 1 ∨ l = 2 ∨ l = 3 := by omega
  have hk' : k = 0 ∨ k = 1 ∨ k = 2 := by omega
  rcases hl' with rfl | rfl | rfl | rfl <;> rcases hk' with rfl | rfl | rfl
  · obtain ⟨i', j', h1, h2, h3⟩ := act2 h i j hi hj 0 (by decide)
    exact ⟨i', j', 0, h1, h2, by decide, h3⟩
  · obtain ⟨i', j', h1, h2, h3⟩ := act2 h i j hi hj 1 (by decide)
    exact ⟨i', j', 0, h1, h2, by decide, h3⟩
  · exact ⟨i, j, 1, hi, hj, by decide, rfl⟩
  · obtain ⟨i', j', h1, h2, h3⟩ := act2 h i j hi hj 0 (by decide)
    refine ⟨i', j', 1, h1, h2, by decide, ?_⟩
    show past (past (t2 (t1 σ i) j) 2) 0 = past (t2 (t1 σ i') j') 2
    rw [← h3, f02 g]
  · exact ⟨i, j, 2, hi, hj, by decide, rfl⟩
  · exact ⟨i, j, 0, hi, hj, by decide, pp g (by decide)⟩
  · exact ⟨i, j, 3, hi, hj, by decide, rfl⟩
  · exact ⟨i, j, 1, hi, hj, by decide, pp (good_past g (by decide)) (by decide)⟩
  · obtain ⟨i', j', h1, h2, h3⟩ := act2 h i j hi hj 1 (by decide)
    refine ⟨i', j', 2, h1, h2, by decide, ?_⟩
    show past (past (past (t2 (t1 σ i) j) 2) 1) 2 = past (past (t2 (t1 σ i') j') 2) 1
    rw [← h3, b12 g]
  · exact ⟨i, j, 2, hi, hj, by decide, pp (good_past (good_past g (by decide)) (by decide)) (by decide)⟩
  · obtain ⟨i', j', h1, h2, h3⟩ := act2 h i j hi hj 0 (by decide)
    refine ⟨i', j', 3, h1, h2, by decide, ?_⟩
    show past (past (past (past (t2 (t1 σ i) j) 2) 1) 0) 1 = past (past (past (t2 (t1 σ i') j') 2) 1) 0
    rw [← h3, ← b01 (good_past (k := 2) g (by decide)), ← f02 g]
  · obtain ⟨i', j', h1, h2, h3⟩ := act2 h i j hi hj 1 (by decide)
    refine ⟨i', j', 3, h1, h2, by decide, ?_⟩
    show past (past (past (past (t2 (t1 σ i) j) 2) 1) 0) 2 = past (past (past (t2 (t1 σ i') j') 2) 1) 0
    rw [← h3, f02 (good_past (k := 1) (good_past (k := 2) g (by decide)) (by decide)), ← b12 g]
theorem way_nf {σ : St} (h : Good σ) (ks : List Nat) (hk : ∀ k ∈ ks, k < 3) : ∃ i j l, i < 2 ∧ j < 3 ∧ l < 4 ∧ way σ ks = nf σ i j l := by
  have key : ∀ (ks : List Nat), (∀ k ∈ ks, k < 3) → ∀ i j l, i < 2 → j < 3 → l < 4 → ∃ i' j' l', i' < 2 ∧ j' < 3 ∧ l' < 4 ∧ way (nf σ i j l) ks = nf σ i' j' l' := by
    intro ks
    induction ks with
    | nil => intro _ i j l hi hj hl; exact ⟨i, j, l, hi, hj, hl, rfl⟩
    | cons k r ih =>
      intro hk i j l hi hj hl
      obtain ⟨i', j', l', a1, a2, a3, e⟩ := act3 h i j l hi hj hl k (hk k (.head _))
      obtain ⟨i2, j2, l2, b1, b2, b3, e2⟩ := ih (fun q hq => hk q (.tail _ hq)) i' j' l' a1 a2 a3
      exact ⟨i2, j2, l2, b1, b2, b3, by rw [← e2, ← e]; rfl⟩
  exact key ks hk 0 0 0 (by decide) (by decide) (by decide)

noncomputable def nfN (l : List Int) (i j k : Nat) : List Int :=
  let l := if i = 0 then l else swp l 0
  let l := if j = 0 then l else if j = 1 then swp l 1 else swp (swp l 1) 0
  if k = 0 then l else if k = 1 then swp l 2 else if k = 2 then swp (swp l 2) 1 else swp (swp (swp l 2) 1) 0
theorem nms_nf {σ : St} (h : Good σ) {i j k : Nat} (hi : i < 2) (hj : j < 3) (hk : k < 4) : nms (nf σ i j k) = nfN (nms σ) i j k := by
  have g1 := good_t1 h i
  have g2 := good_t2 g1 j
  have e1 : nms (t1 σ i) = if i = 0 then nms σ else swp (nms σ) 0 := by
    have : i = 0 ∨ i = 1 := by omega
    rcases this with rfl | rfl
    · rfl
    · exact nms_past h (by decide)
  have e2 : nms (t2 (t1 σ i) j) = if j = 0 then nms (t1 σ i) else if j = 1 then swp (nms (t1 σ i)) 1 else swp (swp (nms (t1 σ i)) 1) 0 := by
    have : j = 0 ∨ j = 1 ∨ j = 2 := by omega
    rcases this with rfl | rfl | rfl
    · rfl
    · exact nms_past g1 (by decide)
    · exact (nms_past (good_past g1 (by decide)) (by decide)).trans (congrArg (swp · 0) (nms_past g1 (by decide)))
  have e3 : nms (nf σ i j k) = if k = 0 then nms (t2 (t1 σ i) j) else if k = 1 then swp (nms (t2 (t1 σ i) j)) 2 else if k = 2 then swp (swp (nms (t2 (t1 σ i) j)) 2) 1 else swp (swp (swp (nms (t2 (t1 σ i) j)) 2) 1) 0 := by
    have p1 := nms_past g2 (k := 2) (by decide)
    have g3 := good_past g2 (k := 2) (by decide)
    have p2 := nms_past g3 (k := 1) (by decide)
    have g4 := good_past g3 (k := 1) (by decide)
    have p3 := nms_past g4 (k := 0) (by decide)
    have : k = 0 ∨ k = 1 ∨ k = 2 ∨ k = 3 := by omega
    rcases this with rfl | rfl | rfl | rfl
    · rfl
    · exact p1
    · exact p2.trans (congrArg (swp · 1) p1)
    · exact p3.trans (congrArg (swp · 0) (p2.trans (congrArg (swp · 1) p1)))
  rw [e3, e2, e1]; rfl
theorem nfN_injF : ∀ i : Fin 2, ∀ j : Fin 3, ∀ k : Fin 4, ∀ i' : Fin 2, ∀ j' : Fin 3, ∀ k' : Fin 4, nfN [0, 1, 2, 3] i j k = nfN [0, 1, 2, 3] i' j' k' → i = i' ∧ j = j' ∧ k = k' := by decide +kernel
theorem nfN_inj {i j k i' j' k' : Nat} (h1 : i < 2) (h2 : j < 3) (h3 : k < 4) (h4 : i' < 2) (h5 : j' < 3) (h6 : k' < 4) (e : nfN [0, 1, 2, 3] i j k = nfN [0, 1, 2, 3] i' j' k') : i = i' ∧ j = j' ∧ k = k' := by
  obtain ⟨a, b, c⟩ := nfN_injF ⟨i, h1⟩ ⟨j, h2⟩ ⟨k, h3⟩ ⟨i', h4⟩ ⟨j', h5⟩ ⟨k', h6⟩ e
  exact ⟨congrArg Fin.val a, congrArg Fin.val b, congrArg Fin.val c⟩
theorem way_eq {σ : St} (h : Good σ) (hn : nms σ = [0, 1, 2, 3]) {ks ls : List Nat} (hk : ∀ k ∈ ks, k < 3) (hl : ∀ k ∈ ls, k < 3) (e : nms (way σ ks) = nms (way σ ls)) : way σ ks = way σ ls := by
  obtain ⟨i, j, k, a1, a2, a3, e1⟩ := way_nf h ks hk
  obtain ⟨i', j', k', b1, b2, b3, e2⟩ := way_nf h ls hl
  rw [e1, e2, nms_nf h a1 a2 a3, nms_nf h b1 b2 b3, hn] at e
  obtain ⟨rfl, rfl, rfl⟩ := nfN_inj a1 a2 a3 b1 b2 b3 e
  rw [e1, e2]
end
section
set_option maxRecDepth 10000
section
variable (a b c d : Int) (t : Th)
theorem st01 : tollStep 0 [a] t = [a + t.l, a] := by simp [tollStep, tollStay, tollMid, sel, List.range_succ] <;> rfl
theorem st02 : tollStep 0 [a, b] t = [a + t.l, mn (b + t.r) a, b] := by simp [tollStep, tollStay, tollMid, sel, List.range_succ] <;> rfl
theorem st03 : tollStep 0 [a, b, c] t = [a + t.l, mn (b + t.r) a, mn (c + t.l) b, c] := by simp [tollStep, tollStay, tollMid, sel, List.range_succ] <;> rfl
theorem st04 : tollStep 0 [a, b, c, d] t = [a + t.l, mn (b + t.r) a, mn (c + t.l) b, mn (d + t.r) c, d] := by simp [tollStep, tollStay, tollMid, sel, List.range_succ] <;> rfl
theorem st11 : tollStep 1 [a] t = [a + t.r, a] := by simp [tollStep, tollStay, tollMid, sel, List.range_succ] <;> rfl
theorem st12 : tollStep 1 [a, b] t = [a + t.r, mn (b + t.l) a, b] := by simp [tollStep, tollStay, tollMid, sel, List.range_succ] <;> rfl
theorem st13 : tollStep 1 [a, b, c] t = [a + t.r, mn (b + t.l) a, mn (c + t.r) b, c] := by simp [tollStep, tollStay, tollMid, sel, List.range_succ] <;> rfl
theorem st14 : tollStep 1 [a, b, c, d] t = [a + t.r, mn (b + t.l) a, mn (c + t.r) b, mn (d + t.l) c, d] := by simp [tollStep, tollStay, tollMid, sel, List.range_succ] <;> rfl
end
theorem mA (a p q : Int) : a + p + q = a + (p + q) := Int.add_assoc a p q
theorem mB (a b p q r : Int) : min (min (b + p) a + q) (a + r) = min (b + (p + q)) (a + min q r) := mp_eq 5 [b, p, a, q, r] (.m (.a (.m (.a (.v 0) (.v 1)) (.v 2)) (.v 3)) (.a (.v 2) (.v 4))) (.m (.a (.v 0) (.a (.v 1) (.v 3))) (.a (.v 2) (.m (.v 3) (.v 4)))) rfl (by decide +kernel)
theorem mC (a b c p q r : Int) : min (min (c + p) b + q) (min (b + r) a) = min (min (c + (p + q)) (b + min q r)) a := mp_eq 6 [c, p, b, q, r, a] (.m (.a (.m (.a (.v 0) (.v 1)) (.v 2)) (.v 3)) (.m (.a (.v 2) (.v 4)) (.v 5))) (.m (.m (.a (.v 0) (.a (.v 1) (.v 3))) (.a (.v 2) (.m (.v 3) (.v 4)))) (.v 5)) rfl (by decide +kernel)
theorem mD (a q r : Int) : min (a + q) (a + r) = a + min q r := mp_eq 3 [a, q, r] (.m (.a (.v 0) (.v 1)) (.a (.v 0) (.v 2))) (.a (.v 0) (.m (.v 1) (.v 2))) rfl (by decide +kernel)
theorem mE (a b q r : Int) : min (b + q) (min (b + r) a) = min (b + min q r) a := mp_eq 4 [b, q, r, a] (.m (.a (.v 0) (.v 1)) (.m (.a (.v 0) (.v 2)) (.v 3))) (.m (.a (.v 0) (.m (.v 1) (.v 2))) (.v 3)) rfl (by decide +kernel)
theorem min_pass (x y z w : Int) : min (y + (min x w - min y z)) (z + (min x w - min y z)) = min x w := mp_eq 4 [y, x, w, z] (.m (.a (.v 0) (.s (.m (.v 1) (.v 2)) (.m (.v 0) (.v 3)))) (.a (.v 3) (.s (.m (.v 1) (.v 2)) (.m (.v 0) (.v 3))))) (.m (.v 1) (.v 2)) rfl (by decide +kernel)
theorem pl (f b : Th) : (backT f b).l + (frontT f b).l = b.l + f.l := by simp only [backT, frontT]; omega
theorem pr (f b : Th) : (backT f b).r + (frontT f b).r = b.r + f.r := by simp only [backT, frontT]; omega
theorem plr (f b : Th) : min (frontT f b).r (backT f b).l = min b.r f.l := by
  have := min_pass f.l b.l f.r b.r
  simp only [backT, frontT, mor, gvs, tks, mn_le]
  rw [Int.min_comm, this, Int.min_comm]
theorem prl (f b : Th) : min (frontT f b).l (backT f b).r = min b.l f.r := by
  have := min_pass b.l f.l b.r f.r
  have e1 : f.l - mor f b = f.l + (min b.l f.r - min f.l b.r) := by simp only [mor, gvs, tks, mn_le]; omega
  have e2 : b.r - mor f b = b.r + (min b.l f.r - min f.l b.r) := by simp only [mor, gvs, tks, mn_le]; omega
  simp only [backT, frontT, e1, e2]
  exact this
theorem toll2 {s : Int} (hs : s = 0 ∨ s = 1) {T : List Int} (hT : T.length = 1 ∨ T.length = 2 ∨ T.length = 3) (f b : Th) : tollStep s (tollStep s T (backT f b)) (frontT f b) = tollStep s (tollStep s T f) b := by
  have h1 := pl f b
  have h2 := pr f b
  have h3 := plr f b
  have h4 := prl f b
  have c1 := Int.add_comm f.l b.l
  have c2 := Int.add_comm f.r b.r
  rcases hs with rfl | rfl <;> rcases hT with h | h | h
  · match T, h with
    | [x], _ => simp only [st01, st02, mn_le, mA, mB, mC, mD, mE, h1, h2, h3, h4, c1, c2]
  · match T, h with
    | [x, y], _ => simp only [st02, st03, mn_le, mA, mB, mC, mD, mE, h1, h2, h3, h4, c1, c2]
  · match T, h with
    | [x, y, z], _ => simp only [st03, st04, mn_le, mA, mB, mC, mD, mE, h1, h2, h3, h4, c1, c2]
  · match T, h with
    | [x], _ => simp only [st11, st12, mn_le, mA, mB, mC, mD, mE, h1, h2, h3, h4, c1, c2]
  · match T, h with
    | [x, y], _ => simp only [st12, st13, mn_le, mA, mB, mC, mD, mE, h1, h2, h3, h4, c1, c2]
  · match T, h with
    | [x, y, z], _ => simp only [st13, st14, mn_le, mA, mB, mC, mD, mE, h1, h2, h3, h4, c1, c2]
theorem tolls_past {σ : St} (h : Good σ) {k : Nat} (hk : k < 3) {s : Int} (hs : s = 0 ∨ s = 1) : tolls s (past σ k).row = tolls s σ.row := by
  obtain ⟨a, b, c, d, hr, _⟩ := h
  cases σ with
  | mk row bk =>
    dsimp only at hr
    subst hr
    have l1 : ∀ (T : List Int) (t : Th), 1 ≤ T.length → (tollStep s T t).length = T.length + 1 := fun T t h => tollStep_len s T t h
    have : k = 0 ∨ k = 1 ∨ k = 2 := by omega
    rcases this with rfl | rfl | rfl
    · rw [past_0]
      show tollStep s (tollStep s (tollStep s (tollStep s [0] (backT a b)) (frontT a b)) c) d = tollStep s (tollStep s (tollStep s (tollStep s [0] a) b) c) d
      rw [toll2 hs (.inl rfl)]
    · rw [past_1]
      show tollStep s (tollStep s (tollStep s (tollStep s [0] a) (backT b c)) (frontT b c)) d = tollStep s (tollStep s (tollStep s (tollStep s [0] a) b) c) d
      rw [toll2 hs (.inr (.inl (l1 _ _ (by decide))))]
    · rw [past_2]
      show tollStep s (tollStep s (tollStep s (tollStep s [0] a) b) (backT c d)) (frontT c d) = tollStep s (tollStep s (tollStep s (tollStep s [0] a) b) c) d
      rw [toll2 hs (.inr (.inr (by rw [l1 _ _ (by rw [l1 _ _ (by decide)]; decide), l1 _ _ (by decide)]; rfl)))]
theorem tolls0 (a b c d : Th) : tolls 0 [a, b, c, d] = tollStep 0 (tollStep 0 (tollStep 0 (tollStep 0 [0] a) b) c) d := rfl
theorem accs0 (T0 T1 T2 T3 T4 room : Int) : accs [T0, T1, T2, T3, T4] room 0 5 = [T0, T2 + room, T4 + (room + room)] := by
  show [T0 + 0 * room, T2 + 1 * room, T4 + 2 * room] = _
  rw [Int.zero_mul, Int.one_mul, Int.add_zero, Int.two_mul]
theorem accs1 (T0 T1 T2 T3 T4 room : Int) : accs [T0, T1, T2, T3, T4] room 1 5 = [T1, T3 + room] := by
  show [T1 + 0 * room, T3 + 1 * room] = _
  rw [Int.zero_mul, Int.one_mul, Int.add_zero]
theorem least3 (a b c : Int) : leastOf [a, b, c] = min (min a b) c := by unfold leastOf; rfl
theorem least2 (a b : Int) : leastOf [a, b] = min a b := by unfold leastOf; rfl
theorem eLessF (p0 p1 p2 p3 l r : Int) : l = min (min (p0 + l) (min (p2 + l) p1 + (l + r))) (p3 + (l + r + (l + r))) - min (min (p1 + r) p0) (min (p3 + r) p2 + (l + r)) := mp_eq 6 [l, p0, p2, p1, r, p3] (.v 0) (.s (.m (.m (.a (.v 1) (.v 0)) (.a (.m (.a (.v 2) (.v 0)) (.v 3)) (.a (.v 0) (.v 4)))) (.a (.v 5) (.a (.a (.v 0) (.v 4)) (.a (.v 0) (.v 4))))) (.m (.m (.a (.v 3) (.v 4)) (.v 1)) (.a (.m (.a (.v 5) (.v 4)) (.v 2)) (.a (.v 0) (.v 4))))) rfl (by decide +kernel)
theorem last_law (x y z t : Th) : t.l = leastOf (accs (tolls 0 [x, y, z, t]) (t.l + t.r) 0 5) - leastOf (accs (tolls 0 [x, y, z, t]) (t.l + t.r) 1 5) := by
  rw [tolls0, st01, st02, st03]
  generalize (0 : Int) + x.l + y.l + z.l = p0
  generalize mn (mn (0 + y.r) (0 + x.l) + z.r) (0 + x.l + y.l) = p1
  generalize mn (0 + z.l) (mn (0 + y.r) (0 + x.l)) = p2
  rw [st04, accs0, accs1, least3, least2]
  simp only [mn_le]
  exact eLessF p0 p1 p2 0 t.l t.r
end
section
set_option maxRecDepth 10000
noncomputable def sw (t : Th) : Th := ⟨t.nm, t.r, t.l⟩
theorem gvs_sw (f b : Th) : gvs (sw f) (sw b) = tks f b := by simp only [gvs, tks, sw, mn_le]; exact Int.min_comm _ _
theorem tks_sw (f b : Th) : tks (sw f) (sw b) = gvs f b := by simp only [gvs, tks, sw, mn_le]; exact Int.min_comm _ _
theorem front_sw (f b : Th) : frontT (sw f) (sw b) = sw (frontT f b) := by
  have e : mor (sw f) (sw b) = -mor f b := by simp only [mor, gvs_sw, tks_sw]; omega
  simp only [frontT, e]
  simp only [sw, Th.mk.injEq, true_and]
  omega
theorem tolls1_sw (a b c d : Th) : tolls 1 [a, b, c, d] = tolls 0 [sw a, sw b, sw c, sw d] := by
  show tollStep 1 (tollStep 1 (tollStep 1 (tollStep 1 [0] a) b) c) d = tollStep 0 (tollStep 0 (tollStep 0 (tollStep 0 [0] (sw a)) (sw b)) (sw c)) (sw d)
  rw [st11, st12, st13, st14, st01, st02, st03, st04]
  rfl
theorem tolls0_sw (a b c d : Th) : tolls 0 [a, b, c, d] = tolls 1 [sw a, sw b, sw c, sw d] := by
  rw [tolls1_sw]; rfl
theorem j2 (a b v0 v1 w0 q : Int) : min (min (a + v1) (b + w0) + q) (a + v0) = min (a + min (v1 + q) v0) (b + (w0 + q)) := mp_eq 6 [a, v1, b, w0, q, v0] (.m (.a (.m (.a (.v 0) (.v 1)) (.a (.v 2) (.v 3))) (.v 4)) (.a (.v 0) (.v 5))) (.m (.a (.v 0) (.m (.a (.v 1) (.v 4)) (.v 5))) (.a (.v 2) (.a (.v 3) (.v 4)))) rfl (by decide +kernel)
theorem j3 (a b v1 v2 w0 w1 q : Int) : min (min (a + v2) (b + w1) + q) (min (a + v1) (b + w0)) = min (a + min (v2 + q) v1) (b + min (w1 + q) w0) := mp_eq 7 [a, v2, b, w1, q, v1, w0] (.m (.a (.m (.a (.v 0) (.v 1)) (.a (.v 2) (.v 3))) (.v 4)) (.m (.a (.v 0) (.v 5)) (.a (.v 2) (.v 6)))) (.m (.a (.v 0) (.m (.a (.v 1) (.v 4)) (.v 5))) (.a (.v 2) (.m (.a (.v 3) (.v 4)) (.v 6)))) rfl (by decide +kernel)
theorem j4 (a b v1 w0 w1 q : Int) : min (b + (w1 + q)) (min (a + v1) (b + w0)) = min (a + v1) (b + min (w1 + q) w0) := mp_eq 6 [b, w1, q, a, v1, w0] (.m (.a (.v 0) (.a (.v 1) (.v 2))) (.m (.a (.v 3) (.v 4)) (.a (.v 0) (.v 5)))) (.m (.a (.v 3) (.v 4)) (.a (.v 0) (.m (.a (.v 1) (.v 2)) (.v 5)))) rfl (by decide +kernel)
theorem j0 (a v q : Int) : a + v + q = a + (v + q) := Int.add_assoc a v q
theorem front_tolls (x y z t : Th) : ∃ u0 u1 u2 u3 w0 w1 w2 w3, tollStep 0 (tollStep 0 (tollStep 0 [0] y) z) t = [u0, u1, u2, u3] ∧ tollStep 1 (tollStep 1 (tollStep 1 [0] y) z) t = [w0, w1, w2, w3] ∧
    tolls 0 [x, y, z, t] = [x.l + u0, min (x.l + u1) (0 + w0), min (x.l + u2) (0 + w1), min (x.l + u3) (0 + w2), 0 + w3] ∧
    tolls 1 [x, y, z, t] = [x.r + w0, min (x.r + w1) (0 + u0), min (x.r + w2) (0 + u1), min (x.r + w3) (0 + u2), 0 + u3] := by
  have e0 : tolls 0 [x, y, z, t] = tollStep 0 (tollStep 0 (tollStep 0 [x.l + 0, 0 + 0] y) z) t := by
    show tollStep 0 (tollStep 0 (tollStep 0 (tollStep 0 [0] x) y) z) t = _
    rw [st01, Int.add_comm 0 x.l]; rfl
  have e1 : tolls 1 [x, y, z, t] = tollStep 1 (tollStep 1 (tollStep 1 [x.r + 0, 0 + 0] y) z) t := by
    show tollStep 1 (tollStep 1 (tollStep 1 (tollStep 1 [0] x) y) z) t = _
    rw [st11, Int.add_comm 0 x.r]; rfl
  have s2 : ∀ a b v w : Int, tollStep 0 [a + v, b + w] y = [a + (v + y.l), min (a + v) (b + (w + y.r)), b + w] ∧ tollStep 1 [a + v, b + w] y = [a + (v + y.r), min (a + v) (b + (w + y.l)), b + w] := fun a b v w => by
    rw [st02, st12]; simp only [mn_le, j0]
    exact ⟨by rw [Int.min_comm (b + (w + y.r))], by rw [Int.min_comm (b + (w + y.l))]⟩
  have s3 : ∀ a b v0 v1 w0 w1 : Int, tollStep 0 [a + v0, min (a + v1) (b + w0), b + w1] z = [a + (v0 + z.l), min (a + min (v1 + z.r) v0) (b + (w0 + z.r)), min (a + v1) (b + min (w1 + z.l) w0), b + w1] ∧
      tollStep 1 [a + v0, min (a + v1) (b + w0), b + w1] z = [a + (v0 + z.r), min (a + min (v1 + z.l) v0) (b + (w0 + z.l)), min (a + v1) (b + min (w1 + z.r) w0), b + w1] := fun a b v0 v1 w0 w1 => by
    rw [st03, st13]; simp only [mn_le, j2, j4, j0, and_self]
  have s4 : ∀ a b v0 v1 v2 w0 w1 w2 : Int, tollStep 0 [a + v0, min (a + v1) (b + w0), min (a + v2) (b + w1), b + w2] t = [a + (v0 + t.l), min (a + min (v1 + t.r) v0) (b + (w0 + t.r)), min (a + min (v2 + t.l) v1) (b + min (w1 + t.l) w0), min (a + v2) (b + min (w2 + t.r) w1), b + w2] ∧
      tollStep 1 [a + v0, min (a + v1) (b + w0), min (a + v2) (b + w1), b + w2] t = [a + (v0 + t.r), min (a + min (v1 + t.l) v0) (b + (w0 + t.l)), min (a + min (v2 + t.r) v1) (b + min (w1 + t.r) w0), min (a + v2) (b + min (w2 + t.l) w1), b + w2] := fun a b v0 v1 v2 w0 w1 w2 => by
    rw [st04, st14]; simp only [mn_le, j2, j3, j4, j0, and_self]
  refine ⟨_, _, _, _, _, _, _, _, by rw [st01, st02, st03], by rw [st11, st12, st13], ?_, ?_⟩
  · rw [e0, (s2 _ _ _ _).1, (s3 _ _ _ _ _ _).1, (s4 _ _ _ _ _ _ _ _).1]
    simp only [mn_le]
  · rw [e1, (s2 _ _ _ _).2, (s3 _ _ _ _ _ _).2, (s4 _ _ _ _ _ _ _ _).2]
    simp only [mn_le]
theorem fLaw (l r u1 u3 w0 w2 : Int) : r = min (min (r + w0) (min (r + w2) (0 + u1) + (l + r))) (0 + u3 + (l + r + (l + r))) - min (min (l + u1) (0 + w0)) (min (l + u3) (0 + w2) + (l + r)) := mp_eq 6 [r, w0, w2, u1, l, u3] (.v 0) (.s (.m (.m (.a (.v 0) (.v 1)) (.a (.m (.a (.v 0) (.v 2)) (.a .z (.v 3))) (.a (.v 4) (.v 0)))) (.a (.a .z (.v 5)) (.a (.a (.v 4) (.v 0)) (.a (.v 4) (.v 0))))) (.m (.m (.a (.v 4) (.v 3)) (.a .z (.v 1))) (.a (.m (.a (.v 4) (.v 5)) (.a .z (.v 2))) (.a (.v 4) (.v 0))))) rfl (by decide +kernel)
theorem first_law (x y z t : Th) : x.r = leastOf (accs (tolls 1 [x, y, z, t]) (x.l + x.r) 0 5) - leastOf (accs (tolls 0 [x, y, z, t]) (x.l + x.r) 1 5) := by
  obtain ⟨u0, u1, u2, u3, w0, w1, w2, w3, _, _, h0, h1⟩ := front_tolls x y z t
  rw [h0, h1, accs0, accs1, least3, least2]
  exact fLaw x.l x.r u1 u3 w0 w2
theorem giveLaw (l r yl yr p q g t G : Int) (hg : g = min l yr) (ht : t = min yl r) (hG : G = min (l - (g - t) + p) q) : g + G = min (l + min (yl + p) q) (min (yr + q) (p + (l + r))) := by
  subst hg ht hG
  exact mp_eq 6 [l, yr, yl, r, p, q] (.a (.m (.v 0) (.v 1)) (.m (.a (.s (.v 0) (.s (.m (.v 0) (.v 1)) (.m (.v 2) (.v 3)))) (.v 4)) (.v 5))) (.m (.a (.v 0) (.m (.a (.v 2) (.v 4)) (.v 5))) (.m (.a (.v 1) (.v 5)) (.a (.v 4) (.a (.v 0) (.v 3))))) rfl (by decide +kernel)
theorem give_end (l r u1 u3 w0 w2 P Q : Int) (hP : P = min u1 (u3 + (l + r))) (hQ : Q = min w0 (w2 + (l + r))) : min (l + P) Q = min (min (l + u1) (0 + w0)) (min (l + u3) (0 + w2) + (l + r)) := by
  subst hP hQ
  exact mp_eq 6 [l, u1, u3, r, w0, w2] (.m (.a (.v 0) (.m (.v 1) (.a (.v 2) (.a (.v 0) (.v 3))))) (.m (.v 4) (.a (.v 5) (.a (.v 0) (.v 3))))) (.m (.m (.a (.v 0) (.v 1)) (.a .z (.v 4))) (.a (.m (.a (.v 0) (.v 2)) (.a .z (.v 5))) (.a (.v 0) (.v 3)))) rfl (by decide +kernel)
theorem gave_law (x y z t : Th) : gvs x y + gvs (frontT x y) z + gvs (frontT (frontT x y) z) t = leastOf (accs (tolls 0 [x, y, z, t]) (x.l + x.r) 1 5) := by
  obtain ⟨u0, u1, u2, u3, w0, w1, w2, w3, hu, hw, h0, h1⟩ := front_tolls x y z t
  rw [h0, accs1, least2]
  have i1 : gvs x y = min x.l y.r := mn_le _ _
  have i2 : tks x y = min y.l x.r := mn_le _ _
  have i3 : gvs (frontT x y) z = min (x.l - (gvs x y - tks x y)) z.r := mn_le _ _
  have i4 : tks (frontT x y) z = min z.l (x.r + (gvs x y - tks x y)) := mn_le _ _
  have i5 : gvs (frontT (frontT x y) z) t = min ((x.l - (gvs x y - tks x y)) - (gvs (frontT x y) z - tks (frontT x y) z)) t.r := mn_le _ _
  have hs := gsum i3 i4 i5
  have hr : x.l - (gvs x y - tks x y) + (x.r + (gvs x y - tks x y)) = x.l + x.r := by omega
  rw [hr] at hs
  have hG := giveLaw x.l x.r y.l y.r (min t.r z.l) (min (z.r + t.r) (x.l + x.r)) (gvs x y) (tks x y) _ i1 i2 hs
  rw [Int.add_assoc, hG]
  have eu : [u0, u1, u2, u3] = _ := hu.symm
  have ew : [w0, w1, w2, w3] = _ := hw.symm
  rw [st01, st02, st03] at eu
  rw [st11, st12, st13] at ew
  simp only [mn_le, List.cons.injEq, and_true] at eu ew
  obtain ⟨_, e1, _, e3⟩ := eu
  obtain ⟨f0, _, f2, _⟩ := ew
  refine (give_end x.l x.r u1 u3 w0 w2 _ _ ?_ ?_)
  · rw [e1, e3]
    exact mp_eq 6 [y.l, t.r, z.l, z.r, x.l, x.r] (.m (.a (.v 0) (.m (.v 1) (.v 2))) (.m (.a (.v 3) (.v 1)) (.a (.v 4) (.v 5)))) (.m (.m (.a (.m (.a .z (.v 3)) (.a .z (.v 0))) (.v 1)) (.a (.a .z (.v 0)) (.v 2))) (.a .z (.a (.v 4) (.v 5)))) rfl (by decide +kernel)
  · rw [f0, f2]
    exact mp_eq 6 [y.r, z.r, t.r, x.l, x.r, z.l] (.m (.a (.v 0) (.m (.a (.v 1) (.v 2)) (.a (.v 3) (.v 4)))) (.a (.m (.v 2) (.v 5)) (.a (.v 3) (.v 4)))) (.m (.a (.a (.a .z (.v 0)) (.v 1)) (.v 2)) (.a (.m (.a .z (.v 2)) (.m (.a .z (.v 5)) (.a .z (.v 0)))) (.a (.v 3) (.v 4)))) rfl (by decide +kernel)
theorem took_law (x y z t : Th) : tks x y + tks (frontT x y) z + tks (frontT (frontT x y) z) t = leastOf (accs (tolls 1 [x, y, z, t]) (x.l + x.r) 1 5) := by
  have := gave_law (sw x) (sw y) (sw z) (sw t)
  rw [front_sw, front_sw, gvs_sw, gvs_sw, gvs_sw, ← tolls1_sw] at this
  rw [this, show (sw x).l + (sw x).r = x.l + x.r from Int.add_comm _ _]
end
section
set_option maxRecDepth 10000
noncomputable def NumOk (st : List Th) (i : Nat) (t : Th) (x : Bk) : Prop := 0 ≤ t.nm ∧ t.nm < 4 ∧ ∃ s, st[t.nm.toNat]? = some s ∧ x.on = i - t.nm ∧ x.mo = t.l - s.l ∧ x.tk - x.gv = x.mo ∧ t.l + t.r = s.l + s.r
theorem num_back {st : List Th} {i : Nat} {f b : Th} {x : Bk} (h : NumOk st (i + 1) b x) : NumOk st i (backT f b) (backB f b x) := by
  obtain ⟨h1, h2, s, hs, e1, e2, e3, e4⟩ := h
  refine ⟨h1, h2, s, hs, ?_, ?_, ?_, ?_⟩ <;> simp only [backT, backB, mor] <;> omega
theorem num_front {st : List Th} {i : Nat} {f b : Th} {x : Bk} (h : NumOk st i f x) : NumOk st (i + 1) (frontT f b) (frontB f b x) := by
  obtain ⟨h1, h2, s, hs, e1, e2, e3, e4⟩ := h
  refine ⟨h1, h2, s, hs, ?_, ?_, ?_, ?_⟩ <;> simp only [frontT, frontB, mor] <;> omega
noncomputable def NumsOk (st : List Th) : List Th → Nat → (Int → Bk) → Prop
  | [], _, _ => True
  | t :: r, i, bk => NumOk st i t (bk t.nm) ∧ NumsOk st r (i + 1) bk
noncomputable def WhoOk (row : List Th) (bk : Int → Bk) : Prop := ∀ (i j : Nat) (t u : Th), row[i]? = some t → row[j]? = some u → (bk t.nm).c u.nm = (if j < i then 1 else 0) - (if u.nm < t.nm then 1 else 0)
structure Inv (st : List Th) (σ : St) : Prop where
  good : Good σ
  nums : NumsOk st σ.row 0 σ.bk
  who : WhoOk σ.row σ.bk
  t0 : tolls 0 σ.row = tolls 0 st
  t1 : tolls 1 σ.row = tolls 1 st
noncomputable def pi (k i : Nat) : Nat := if i = k then k + 1 else if i = k + 1 then k else i
theorem pi_lt {k i : Nat} (hk : k < 3) (hi : i < 4) : pi k i < 4 := by unfold pi; split <;> (try split) <;> omega
theorem upd_c (x y : Th) (bk : Int → Bk) (n m : Int) : (upd x y bk n).c m = (bk n).c m + (if n = y.nm then (if x.nm = m then -1 else 0) else if n = x.nm then (if y.nm = m then 1 else 0) else 0) := by
  unfold upd
  by_cases h1 : n = y.nm
  · simp only [h1, if_true, backB]
  · by_cases h2 : n = x.nm
    · have h3 : x.nm ≠ y.nm := h2 ▸ h1
      simp only [h2, h3, if_true, if_false, frontB]
    · simp only [h1, h2, if_false, Int.add_zero]
theorem cnt1 (k j : Nat) : ((if pi k j < k + 1 then 1 else 0 : Int)) + (if k = pi k j then -1 else 0) = if j < k then 1 else 0 := by
  unfold pi; (repeat' split) <;> omega
theorem cnt2 (k j : Nat) : ((if pi k j < k then 1 else 0 : Int)) + (if k + 1 = pi k j then 1 else 0) = if j < k + 1 then 1 else 0 := by
  unfold pi; (repeat' split) <;> omega
theorem cnt3 (k i j : Nat) (h1 : i ≠ k) (h2 : i ≠ k + 1) : ((if pi k j < i then 1 else 0 : Int)) = if j < i then 1 else 0 := by
  unfold pi; (repeat' split) <;> omega
noncomputable def WhoF (f : Nat → Int) (bk : Int → Bk) : Prop := ∀ i j, i < 4 → j < 4 → (bk (f i)).c (f j) = (if j < i then 1 else 0) - (if f j < f i then 1 else 0)
theorem who_upd {f : Nat → Int} {bk : Int → Bk} {k : Nat} (hk : k < 3) (inj : ∀ i j, i < 4 → j < 4 → f i = f j → i = j) (hw : WhoF f bk) {x y : Th} (hx : x.nm = f k) (hy : y.nm = f (k + 1)) : WhoF (fun i => f (pi k i)) (upd x y bk) := by
  intro i j hi hj
  have pi' := pi_lt hk hi
  have pj' := pi_lt hk hj
  have e : ∀ p q : Nat, p < 4 → q < 4 → ((f p = f q) ↔ p = q) := fun p q hp hq => ⟨inj p q hp hq, fun z => by rw [z]⟩
  show (upd x y bk (f (pi k i))).c (f (pi k j)) = (if j < i then 1 else 0) - (if f (pi k j) < f (pi k i) then 1 else 0)
  rw [upd_c, hw _ _ pi' pj', hx, hy]
  simp only [e _ _ pi' (show k + 1 < 4 by omega), e _ _ pi' (show k < 4 by omega), e _ _ (show k < 4 by omega) pj', e _ _ (show k + 1 < 4 by omega) pj']
  by_cases h1 : i = k
  · subst h1
    have : pi i i = i + 1 := by simp [pi]
    have c := cnt1 i j
    rw [this, if_pos rfl]
    omega
  · by_cases h2 : i = k + 1
    · subst h2
      have : pi k (k + 1) = k := by simp [pi]
      have c := cnt2 k j
      have z1 : ¬ (k = k + 1) := by omega
      rw [this, if_neg z1, if_pos rfl]
      omega
    · have : pi k i = i := by simp [pi, h1, h2]
      have c := cnt3 k i j h1 h2
      rw [this, if_neg h2, if_neg h1, c]
      omega
noncomputable def nmAt (row : List Th) (i : Nat) : Int := (row[i]?.map (·.nm)).getD 0
theorem who_iff {row : List Th} {bk : Int → Bk} (h : row.length = 4) : WhoOk row bk ↔ WhoF (nmAt row) bk := by
  have e : ∀ (i : Nat) (t : Th), row[i]? = some t → nmAt row i = t.nm := fun i t h => by simp [nmAt, h]
  constructor
  · intro hw i j hi hj
    have a := hw i j _ _ (List.getElem?_eq_getElem (h ▸ hi)) (List.getElem?_eq_getElem (h ▸ hj))
    rw [e i _ (List.getElem?_eq_getElem (h ▸ hi)), e j _ (List.getElem?_eq_getElem (h ▸ hj))]
    exact a
  · intro hw i j t u ht hu
    have a := hw i j (h ▸ (List.getElem?_eq_some_iff.mp ht).1) (h ▸ (List.getElem?_eq_some_iff.mp hu).1)
    rw [e i t ht, e j u hu] at a
    exact a
theorem who_past {σ : St} (h : Good σ) (hw : WhoOk σ.row σ.bk) {k : Nat} (hk : k < 3) : WhoOk (past σ k).row (past σ k).bk := by
  obtain ⟨a, b, c, d, hr, h1, h2, h3, h4, h5, h6⟩ := h
  cases σ with
  | mk row bk =>
    dsimp only at hr hw
    subst hr
    have hf := (who_iff (row := [a, b, c, d]) rfl).mp hw
    have inj : ∀ i j, i < 4 → j < 4 → nmAt [a, b, c, d] i = nmAt [a, b, c, d] j → i = j := by
      intro i j hi hj e
      match i, j, hi, hj with
      | 0, 0, _, _ | 1, 1, _, _ | 2, 2, _, _ | 3, 3, _, _ => rfl
      | 0, 1, _, _ => exact absurd e h1
      | 0, 2, _, _ => exact absurd e h2
      | 0, 3, _, _ => exact absurd e h3
      | 1, 2, _, _ => exact absurd e h4
      | 1, 3, _, _ => exact absurd e h5
      | 2, 3, _, _ => exact absurd e h6
      | 1, 0, _, _ => exact absurd e.symm h1
      | 2, 0, _, _ => exact absurd e.symm h2
      | 3, 0, _, _ => exact absurd e.symm h3
      | 2, 1, _, _ => exact absurd e.symm h4
      | 3, 1, _, _ => exact absurd e.symm h5
      | 3, 2, _, _ => exact absurd e.symm h6
    have up : ∀ (row' : List Th) (bk' : Int → Bk), row'.length = 4 → (∀ i, i < 4 → nmAt row' i = nmAt [a, b, c, d] (pi k i)) → WhoF (fun i => nmAt [a, b, c, d] (pi k i)) bk' → WhoOk row' bk' := by
      intro row' bk' hl he hw'
      refine (who_iff hl).mpr fun i j hi hj => ?_
      rw [he i hi, he j hj]
      exact hw' i j hi hj
    have : k = 0 ∨ k = 1 ∨ k = 2 := by omega
    rcases this with rfl | rfl | rfl
    · rw [past_0]
      exact up _ _ rfl (fun i hi => by match i, hi with | 0, _ | 1, _ | 2, _ | 3, _ => rfl) (who_upd hk inj hf rfl rfl)
    · rw [past_1]
      exact up _ _ rfl (fun i hi => by match i, hi with | 0, _ | 1, _ | 2, _ | 3, _ => rfl) (who_upd hk inj hf rfl rfl)
    · rw [past_2]
      exact up _ _ rfl (fun i hi => by match i, hi with | 0, _ | 1, _ | 2, _ | 3, _ => rfl) (who_upd hk inj hf rfl rfl)
theorem nums_past {st : List Th} {σ : St} (h : Good σ) (hn : NumsOk st σ.row 0 σ.bk) {k : Nat} (hk : k < 3) : NumsOk st (past σ k).row 0 (past σ k).bk := by
  obtain ⟨a, b, c, d, hr, h1, h2, h3, h4, h5, h6⟩ := h
  cases σ with
  | mk row bk =>
    dsimp only at hr hn
    subst hr
    obtain ⟨p0, p1, p2, p3, _⟩ := hn
    have u1 : ∀ f g : Th, f.nm ≠ g.nm → upd f g bk f.nm = frontB f g (bk f.nm) := fun f g h => by simp [upd, h]
    have u2 : ∀ f g : Th, upd f g bk g.nm = backB f g (bk g.nm) := fun f g => by simp [upd]
    have u3 : ∀ (f g : Th) (n : Int), n ≠ f.nm → n ≠ g.nm → upd f g bk n = bk n := fun f g n h h' => by simp [upd, h, h']
    have : k = 0 ∨ k = 1 ∨ k = 2 := by omega
    rcases this with rfl | rfl | rfl
    · rw [past_0]
      refine ⟨?_, ?_, ?_, ?_, trivial⟩
      · show NumOk st 0 (backT a b) (upd a b bk b.nm); rw [u2]; exact num_back p1
      · show NumOk st 1 (frontT a b) (upd a b bk a.nm); rw [u1 _ _ h1]; exact num_front p0
      · show NumOk st 2 c (upd a b bk c.nm); rw [u3 _ _ _ h2.symm h4.symm]; exact p2
      · show NumOk st 3 d (upd a b bk d.nm); rw [u3 _ _ _ h3.symm h5.symm]; exact p3
    · rw [past_1]
      refine ⟨?_, ?_, ?_, ?_, trivial⟩
      · show NumOk st 0 a (upd b c bk a.nm); rw [u3 _ _ _ h1 h2]; exact p0
      · show NumOk st 1 (backT b c) (upd b c bk c.nm); rw [u2]; exact num_back p2
      · show NumOk st 2 (frontT b c) (upd b c bk b.nm); rw [u1 _ _ h4]; exact num_front p1
      · show NumOk st 3 d (upd b c bk d.nm); rw [u3 _ _ _ h5.symm h6.symm]; exact p3
    · rw [past_2]
      refine ⟨?_, ?_, ?_, ?_, trivial⟩
      · show NumOk st 0 a (upd c d bk a.nm); rw [u3 _ _ _ h2 h3]; exact p0
      · show NumOk st 1 b (upd c d bk b.nm); rw [u3 _ _ _ h4 h5]; exact p1
      · show NumOk st 2 (backT c d) (upd c d bk d.nm); rw [u2]; exact num_back p3
      · show NumOk st 3 (frontT c d) (upd c d bk c.nm); rw [u1 _ _ h6]; exact num_front p2
theorem inv_past {st : List Th} {σ : St} (h : Inv st σ) {k : Nat} (hk : k < 3) : Inv st (past σ k) :=
  ⟨good_past h.good hk, nums_past h.good h.nums hk, who_past h.good h.who hk, (tolls_past h.good hk (.inl rfl)).trans h.t0, (tolls_past h.good hk (.inr rfl)).trans h.t1⟩
theorem inv_way {st : List Th} {σ : St} (h : Inv st σ) : ∀ {ks : List Nat}, (∀ k ∈ ks, k < 3) → Inv st (way σ ks)
  | [], _ => h
  | k :: _, hk => inv_way (inv_past h (hk k (.head _))) fun q hq => hk q (.tail _ hq)
theorem nums_get {st : List Th} {bk : Int → Bk} : ∀ {row : List Th} {n : Nat}, NumsOk st row n bk → ∀ {i : Nat} {t : Th}, row[i]? = some t → NumOk st (n + i) t (bk t.nm)
  | [], _, _, _, _, e => by simp at e
  | x :: r, n, h, 0, t, e => by have : x = t := Option.some.inj e; subst this; exact h.1
  | x :: r, n, h, i + 1, t, e => by
    have := nums_get h.2 (i := i) (t := t) (by simpa using e)
    rwa [Nat.add_assoc, Nat.add_comm 1 i] at this
theorem inv_fits {st : List Th} {σ : St} (h : Inv st σ) : Fits st (tolls 0 st) (tolls 1 st) σ := by
  obtain ⟨a, b, c, d, hr, _⟩ := h.good
  refine ⟨fun i t s hi hs => ?_, h.who, fun t s ht hs => ?_, fun t s ht hs => ?_, h.t0, h.t1⟩
  · obtain ⟨_, _, s', hs', e1, e2, e3, e4⟩ := nums_get h.nums hi
    rw [hs] at hs'
    obtain rfl := Option.some.inj hs'
    rw [Nat.zero_add] at e1
    exact ⟨e1, e2, e3, e4⟩
  · obtain ⟨_, _, s', hs', _, _, _, e4⟩ := nums_get h.nums ht
    rw [hs] at hs'
    obtain rfl := Option.some.inj hs'
    rw [← h.t0, ← e4]
    rw [hr] at ht ⊢
    have : d = t := Option.some.inj ht
    subst this
    exact last_law a b c d
  · obtain ⟨_, _, s', hs', _, _, _, e4⟩ := nums_get h.nums ht
    rw [hs] at hs'
    obtain rfl := Option.some.inj hs'
    rw [← h.t0, ← h.t1, ← e4]
    rw [hr] at ht ⊢
    have : a = t := Option.some.inj ht
    subst this
    exact first_law a b c d
end
section
set_option maxRecDepth 10000
theorem upd_front {f g : Th} {bk : Int → Bk} (h : f.nm ≠ g.nm) : upd f g bk f.nm = frontB f g (bk f.nm) := by simp [upd, h]
theorem upd_other {f g : Th} {bk : Int → Bk} {n : Int} (h1 : n ≠ f.nm) (h2 : n ≠ g.nm) : upd f g bk n = bk n := by simp [upd, h1, h2]
theorem six_book {a b c d : Th} {bk : Int → Bk} (h1 : a.nm ≠ b.nm) (h2 : a.nm ≠ c.nm) (h3 : a.nm ≠ d.nm) :
    (way ⟨[a, b, c, d], bk⟩ [0, 1, 2, 0, 1, 0]).bk a.nm = frontB (frontT (frontT a b) c) d (frontB (frontT a b) c (frontB a b (bk a.nm))) := by
  simp only [way, List.foldl_cons, List.foldl_nil, past_0, past_1, past_2]
  generalize hp : frontT a b = p
  generalize hq : frontT p c = q
  have e2 : p.nm = a.nm := by rw [← hp]; rfl
  have e1 : q.nm = a.nm := by rw [← hq]; exact e2
  refine (upd_other ?_ ?_).trans ((upd_other ?_ ?_).trans ((upd_other ?_ ?_).trans ?_))
  · exact h2
  · exact h3
  · exact h1
  · exact h3
  · exact h1
  · exact h2
  · have u1 : upd q d (upd p c (upd a b bk)) a.nm = frontB q d (upd p c (upd a b bk) a.nm) := by rw [← e1]; exact upd_front (by rw [e1]; exact h3)
    have u2 : upd p c (upd a b bk) a.nm = frontB p c (upd a b bk a.nm) := by rw [← e2]; exact upd_front (by rw [e2]; exact h2)
    rw [u1, u2, upd_front h1]
theorem six_nms {σ : St} (h : Good σ) : nms (way σ [0, 1, 2, 0, 1, 0]) = (nms σ).reverse := by
  obtain ⟨a, b, c, d, hr, _⟩ := h
  cases σ with
  | mk row bk => dsimp only at hr; subst hr; simp only [way, List.foldl_cons, List.foldl_nil, past_0, past_1, past_2]; rfl
theorem cross_six {st : List Th} {x : St} (h : Inv st x) : crossOne st (tolls 0 st) (tolls 1 st) x (way x [0, 1, 2, 0, 1, 0]) := by
  intro t s ht hs
  obtain ⟨_, _, s', hs', _, _, _, e4⟩ := nums_get h.nums ht
  rw [hs] at hs'
  obtain rfl := Option.some.inj hs'
  have t0 := h.t0
  have t1 := h.t1
  obtain ⟨a, b, c, d, hr, h1, h2, h3, _⟩ := h.good
  cases x with
  | mk row bk =>
    dsimp only at hr
    subst hr
    have : a = t := Option.some.inj ht
    subst this
    rw [six_book h1 h2 h3, ← e4, ← t0, ← t1]
    have g := gave_law a b c d
    have k := took_law a b c d
    generalize leastOf (accs (tolls 0 [a, b, c, d]) (a.l + a.r) 1 5) = A at *
    generalize leastOf (accs (tolls 1 [a, b, c, d]) (a.l + a.r) 1 5) = B at *
    show (gvs (frontT (frontT a b) c) d + (gvs (frontT a b) c + (gvs a b + (bk a.nm).gv))) - (bk a.nm).gv = A ∧ (tks (frontT (frontT a b) c) d + (tks (frontT a b) c + (tks a b + (bk a.nm).tk))) - (bk a.nm).tk = B
    omega
theorem cross_way {st : List Th} {σ : St} (h : Inv st σ) (hn : nms σ = [0, 1, 2, 3]) {ks ls : List Nat} (hk : ∀ k ∈ ks, k < 3) (hl : ∀ k ∈ ls, k < 3) (e : nms (way σ ls) = (nms (way σ ks)).reverse) :
    crossOne st (tolls 0 st) (tolls 1 st) (way σ ks) (way σ ls) := by
  have e2 : way σ ls = way (way σ ks) [0, 1, 2, 0, 1, 0] := by
    rw [← way_app]
    refine way_eq h.good hn hl (fun k hk' => ?_) ?_
    · rcases List.mem_append.mp hk' with q | q
      · exact hk k q
      · simp only [List.mem_cons, List.not_mem_nil, or_false] at q
        omega
    · rw [way_app, six_nms (good_way h.good hk), e]
  rw [e2]
  exact cross_six (inv_way h hk)
end
section
set_option maxRecDepth 10000
noncomputable def wr2 (p : Int → Int → Bool) (l : List Int) (k : Nat) : Bool :=
  match l[k]? with
  | none => false
  | some a => match l[k + 1]? with
    | none => false
    | some b => p a b
noncomputable def bub (p : Int → Int → Bool) (l : List Int) (k : Nat) : List Int := if wr2 p l k = true then swp l k else l
noncomputable def wrong (cf : Int → Int → Int) (n m : Int) : Bool := decide (0 < cf n m)
theorem turn_is {cf : Int → Int → Int} {σ : St} (h : Good σ) {k : Nat} (hk : k < 3) : (turn cf σ k = σ ∨ turn cf σ k = past σ k) ∧ nms (turn cf σ k) = bub (wrong cf) (nms σ) k := by
  have np := nms_past h hk
  obtain ⟨a, b, c, d, hr, _⟩ := h
  cases σ with
  | mk row bk =>
    dsimp only at hr
    subst hr
    have key : ∀ (x y : Th) (i : Nat), ([a, b, c, d] : List Th)[i]? = some x → ([a, b, c, d] : List Th)[i + 1]? = some y → turn cf ⟨[a, b, c, d], bk⟩ i = if 0 < cf x.nm y.nm then past ⟨[a, b, c, d], bk⟩ i else ⟨[a, b, c, d], bk⟩ := by
      intro x y i e1 e2
      unfold turn
      dsimp only
      rw [e1, e2]
    have : k = 0 ∨ k = 1 ∨ k = 2 := by omega
    rcases this with rfl | rfl | rfl
    · rw [key a b 0 rfl rfl]
      by_cases q : 0 < cf a.nm b.nm
      · rw [if_pos q]; refine ⟨.inr rfl, np.trans ?_⟩; show [_, _, _, _] = if wrong cf a.nm b.nm = true then _ else _; rw [if_pos (by simpa [wrong] using q)]; rfl
      · rw [if_neg q]; refine ⟨.inl rfl, ?_⟩; show [_, _, _, _] = if wrong cf a.nm b.nm = true then _ else _; rw [if_neg (by simpa [wrong] using q)]; rfl
    · rw [key b c 1 rfl rfl]
      by_cases q : 0 < cf b.nm c.nm
      · rw [if_pos q]; refine ⟨.inr rfl, np.trans ?_⟩; show [_, _, _, _] = if wrong cf b.nm c.nm = true then _ else _; rw [if_pos (by simpa [wrong] using q)]; rfl
      · rw [if_neg q]; refine ⟨.inl rfl, ?_⟩; show [_, _, _, _] = if wrong cf b.nm c.nm = true then _ else _; rw [if_neg (by simpa [wrong] using q)]; rfl
    · rw [key c d 2 rfl rfl]
      by_cases q : 0 < cf c.nm d.nm
      · rw [if_pos q]; refine ⟨.inr rfl, np.trans ?_⟩; show [_, _, _, _] = if wrong cf c.nm d.nm = true then _ else _; rw [if_pos (by simpa [wrong] using q)]; rfl
      · rw [if_neg q]; refine ⟨.inl rfl, ?_⟩; show [_, _, _, _] = if wrong cf c.nm d.nm = true then _ else _; rw [if_neg (by simpa [wrong] using q)]; rfl
theorem turns_way {cf : Int → Int → Int} : ∀ {ks : List Nat} {σ : St}, Good σ → (∀ k ∈ ks, k < 3) → (∃ ls : List Nat, (∀ k ∈ ls, k < 3) ∧ ks.foldl (turn cf) σ = way σ ls) ∧ nms (ks.foldl (turn cf) σ) = ks.foldl (bub (wrong cf)) (nms σ)
  | [], σ, h, _ => ⟨⟨[], fun _ q => (List.not_mem_nil q).elim, rfl⟩, rfl⟩
  | k :: r, σ, h, hk => by
    obtain ⟨t, tn⟩ := turn_is (cf := cf) h (hk k (.head _))
    have hr : ∀ q ∈ r, q < 3 := fun q hq => hk q (.tail _ hq)
    have g : Good (turn cf σ k) := by
      rcases t with t | t <;> rw [t]
      · exact h
      · exact good_past h (hk k (.head _))
    obtain ⟨⟨ls, h1, h2⟩, h3⟩ := turns_way (cf := cf) (ks := r) g hr
    rw [List.foldl_cons, List.foldl_cons, h3, tn]
    refine ⟨?_, rfl⟩
    rw [h2]
    rcases t with t | t <;> rw [t]
    · exact ⟨ls, h1, rfl⟩
    · refine ⟨k :: ls, fun q hq => ?_, rfl⟩
      rcases List.mem_cons.mp hq with z | z
      · rw [z]; exact hk _ (.head _)
      · exact h1 q z
noncomputable def lx (r : List Nat) (n m : Int) : Bool := if r.getD n.toNat 0 < r.getD m.toNat 0 then true else if r.getD m.toNat 0 < r.getD n.toNat 0 then false else decide (n < m)
noncomputable def col4 (r : List Nat) (n m : Int) : Bool := decide (r.getD n.toNat 0 < r.getD m.toNat 0)
noncomputable def perms : List (List Int) := [[0,1,2,3],[0,1,3,2],[0,2,1,3],[0,2,3,1],[0,3,1,2],[0,3,2,1],[1,0,2,3],[1,0,3,2],[1,2,0,3],[1,2,3,0],[1,3,0,2],[1,3,2,0],[2,0,1,3],[2,0,3,1],[2,1,0,3],[2,1,3,0],[2,3,0,1],[2,3,1,0],[3,0,1,2],[3,0,2,1],[3,1,0,2],[3,1,2,0],[3,2,0,1],[3,2,1,0]]
noncomputable def ups : List Nat := [0, 1, 2, 0, 1, 0]
noncomputable def downs : List Nat := [2, 1, 0, 2, 1, 2]
noncomputable def srt (r : List Nat) : List Int := downs.foldl (bub fun n m => col4 r m n) [0, 1, 2, 3]
noncomputable def all4 : List (List Nat) := (List.range 4).flatMap fun a => (List.range 4).flatMap fun b => (List.range 4).flatMap fun c => (List.range 4).map fun d => [a, b, c, d]
theorem rise_all : (all4.all fun r => perms.all fun l => decide (ups.foldl (bub fun n m => lx r m n) l = srt r)) = true := by decide +kernel
theorem fall_all : (all4.all fun r => perms.all fun l => decide (ups.foldl (bub (lx r)) l = (srt r).reverse)) = true := by decide +kernel
theorem back_all : (perms.all fun l => decide (downs.foldl (bub fun n m => decide (m < n)) l = [0, 1, 2, 3])) = true := by decide +kernel
theorem swp_all : (perms.all fun l => (List.range 3).all fun k => decide (swp l k ∈ perms) && decide (l.length = 4)) = true := by decide +kernel
theorem perm_in : (perms.all fun l => l.all fun n => decide (n ∈ [(0 : Int), 1, 2, 3])) = true := by decide +kernel
theorem bub_cases (p : Int → Int → Bool) (l : List Int) (k : Nat) : bub p l k = l ∨ bub p l k = swp l k := by
  unfold bub
  by_cases h : wr2 p l k = true
  · exact .inr (if_pos h)
  · exact .inl (if_neg h)
theorem swp_in {l : List Int} (h : l ∈ perms) {k : Nat} (hk : k < 3) : swp l k ∈ perms := by
  have := List.all_eq_true.mp (List.all_eq_true.mp swp_all l h) k (List.mem_range.mpr hk)
  simp only [Bool.and_eq_true, decide_eq_true_eq] at this
  exact this.1
theorem bub_in {p : Int → Int → Bool} {l : List Int} (h : l ∈ perms) {k : Nat} (hk : k < 3) : bub p l k ∈ perms := by
  rcases bub_cases p l k with e | e <;> rw [e]
  · exact h
  · exact swp_in h hk
theorem name_in {l : List Int} (h : l ∈ perms) {n : Int} (hn : n ∈ l) : n ∈ [(0 : Int), 1, 2, 3] := by
  have := List.all_eq_true.mp (List.all_eq_true.mp perm_in l h) n hn
  exact of_decide_eq_true this
theorem bub_congr {p q : Int → Int → Bool} (e : ∀ n ∈ [(0 : Int), 1, 2, 3], ∀ m ∈ [(0 : Int), 1, 2, 3], p n m = q n m) {l : List Int} (h : l ∈ perms) (k : Nat) : bub p l k = bub q l k := by
  have en : wr2 p l k = wr2 q l k := by
    unfold wr2
    cases h1 : l[k]? with
    | none => rfl
    | some a =>
      cases h2 : l[k + 1]? with
      | none => rfl
      | some b => exact e a (name_in h (List.mem_of_getElem? h1)) b (name_in h (List.mem_of_getElem? h2))
  unfold bub
  rw [en]
theorem bubs_congr {p q : Int → Int → Bool} (e : ∀ n ∈ [(0 : Int), 1, 2, 3], ∀ m ∈ [(0 : Int), 1, 2, 3], p n m = q n m) : ∀ {ks : List Nat} {l : List Int}, l ∈ perms → (∀ k ∈ ks, k < 3) → ks.foldl (bub p) l = ks.foldl (bub q) l ∧ ks.foldl (bub p) l ∈ perms
  | [], l, h, _ => ⟨rfl, h⟩
  | k :: r, l, h, hk => by
    rw [List.foldl_cons, List.foldl_cons, bub_congr e h k]
    exact bubs_congr e (bub_in h (hk k (.head _))) fun q hq => hk q (.tail _ hq)
noncomputable def rks (col : Int → Int) : List Nat := [0, 1, 2, 3].map fun i => [(0 : Int), 1, 2, 3].countP fun j => decide (col j < col i)
theorem countP_lt {α : Type} (f : α → Int) (a b : Int) (h : a < b) : ∀ (l : List α), (∃ x ∈ l, f x = a) → l.countP (fun x => decide (f x < a)) < l.countP (fun x => decide (f x < b))
  | [], ⟨_, q, _⟩ => (List.not_mem_nil q).elim
  | x :: r, hx => by
    have mono : r.countP (fun x => decide (f x < a)) ≤ r.countP (fun x => decide (f x < b)) := List.countP_mono_left fun y _ q => by
      simp only [decide_eq_true_eq] at q ⊢; omega
    rw [List.countP_cons, List.countP_cons]
    simp only [decide_eq_true_eq]
    by_cases e : f x = a
    · rw [if_neg (by omega), if_pos (by omega)]; omega
    · have ih := countP_lt f a b h r (by obtain ⟨y, hy, e2⟩ := hx; rcases List.mem_cons.mp hy with z | z; (exact absurd (z ▸ e2) e); exact ⟨y, z, e2⟩)
      by_cases q : f x < a
      · rw [if_pos q, if_pos (by omega)]; omega
      · rw [if_neg q]; omega
theorem rks_lt {col : Int → Int} {n m : Int} (hn : n ∈ [(0 : Int), 1, 2, 3]) (hm : m ∈ [(0 : Int), 1, 2, 3]) : ((rks col).getD n.toNat 0 < (rks col).getD m.toNat 0) ↔ col n < col m := by
  have g : ∀ x ∈ [(0 : Int), 1, 2, 3], (rks col).getD x.toNat 0 = [(0 : Int), 1, 2, 3].countP fun j => decide (col j < col x) := by
    intro x hx
    simp only [List.mem_cons, List.not_mem_nil, or_false] at hx
    rcases hx with rfl | rfl | rfl | rfl <;> rfl
  rw [g n hn, g m hm]
  constructor
  · intro q
    rcases Int.lt_or_le (col n) (col m) with z | z
    · exact z
    · have : [(0 : Int), 1, 2, 3].countP (fun j => decide (col j < col m)) ≤ [(0 : Int), 1, 2, 3].countP (fun j => decide (col j < col n)) := List.countP_mono_left fun y _ q => by
        simp only [decide_eq_true_eq] at q ⊢; omega
      omega
  · intro q
    exact countP_lt col _ _ q _ ⟨n, hn, rfl⟩
theorem rks_in (col : Int → Int) : rks col ∈ all4 := by
  have b : ∀ i ∈ [(0 : Int), 1, 2, 3], [(0 : Int), 1, 2, 3].countP (fun j => decide (col j < col i)) < 4 := by
    intro i hi
    have h1 := countP_lt col (col i) (col i + 1) (by omega) [(0 : Int), 1, 2, 3] ⟨i, hi, rfl⟩
    have h2 := List.countP_le_length (p := fun j => decide (col j < col i + 1)) (l := [(0 : Int), 1, 2, 3])
    have : [(0 : Int), 1, 2, 3].length = 4 := rfl
    omega
  unfold all4 rks
  simp only [List.mem_flatMap, List.mem_map, List.mem_range]
  exact ⟨_, b 0 (by simp), _, b 1 (by simp), _, b 2 (by simp), _, b 3 (by simp), rfl⟩
noncomputable def Reach (σ x : St) : Prop := ∃ ks : List Nat, (∀ k ∈ ks, k < 3) ∧ x = way σ ks
theorem Reach.start (σ : St) : Reach σ σ := ⟨[], fun _ q => (List.not_mem_nil q).elim, rfl⟩
theorem Reach.good {σ x : St} (h : Good σ) (r : Reach σ x) : Good x := by obtain ⟨ks, hk, rfl⟩ := r; exact good_way h hk
theorem Reach.inv {st : List Th} {σ x : St} (h : Inv st σ) (r : Reach σ x) : Inv st x := by obtain ⟨ks, hk, rfl⟩ := r; exact inv_way h hk
theorem Reach.turns {σ x : St} (h : Good σ) (r : Reach σ x) (cf : Int → Int → Int) {ks : List Nat} (hk : ∀ k ∈ ks, k < 3) : Reach σ (ks.foldl (turn cf) x) := by
  have g := r.good h
  obtain ⟨ks', hk', rfl⟩ := r
  obtain ⟨⟨ls, h1, h2⟩, _⟩ := turns_way (cf := cf) g hk
  refine ⟨ks' ++ ls, fun q hq => ?_, by rw [h2, way_app]⟩
  rcases List.mem_append.mp hq with z | z
  · exact hk' q z
  · exact h1 q z
theorem Reach.names {σ x : St} (h : Good σ) (r : Reach σ x) (cf : Int → Int → Int) {ks : List Nat} (hk : ∀ k ∈ ks, k < 3) : nms (ks.foldl (turn cf) x) = ks.foldl (bub (wrong cf)) (nms x) := (turns_way (cf := cf) (r.good h) hk).2
theorem nms_in {σ : St} (h : Good σ) : ∀ {ks : List Nat}, nms σ ∈ perms → (∀ k ∈ ks, k < 3) → nms (way σ ks) ∈ perms
  | [], hn, _ => hn
  | k :: r, hn, hk => nms_in (good_past h (hk k (.head _))) (by rw [nms_past h (hk k (.head _))]; exact swp_in hn (hk k (.head _))) fun q hq => hk q (.tail _ hq)
theorem Reach.in {σ x : St} (h : Good σ) (hn : nms σ = [0, 1, 2, 3]) (r : Reach σ x) : nms x ∈ perms := by
  obtain ⟨ks, hk, rfl⟩ := r
  exact nms_in h (by rw [hn]; decide) hk
theorem Reach.eq {σ x y : St} (h : Good σ) (hn : nms σ = [0, 1, 2, 3]) (r : Reach σ x) (q : Reach σ y) (e : nms x = nms y) : x = y := by
  obtain ⟨ks, hk, rfl⟩ := r
  obtain ⟨ls, hl, rfl⟩ := q
  exact way_eq h hn hk hl e
theorem ups_lt : ∀ k ∈ ups, k < 3 := by decide
theorem downs_lt : ∀ k ∈ downs, k < 3 := by decide
theorem wrong_rise {col key : Int → Int} (hk : ∀ n ∈ [(0 : Int), 1, 2, 3], key n = n) : ∀ n ∈ [(0 : Int), 1, 2, 3], ∀ m ∈ [(0 : Int), 1, 2, 3], wrong (fun a b => cmp2 (col a) (col b) 1 (key a) (key b) 1) n m = lx (rks col) m n := by
  intro n hn m hm
  unfold wrong lx cmp2 cmp1
  simp only [rks_lt hn hm, rks_lt hm hn, hk n hn, hk m hm]
  by_cases a : col n < col m
  · have : ¬ col m < col n := by omega
    simp [a, this]
  · by_cases b : col m < col n
    · simp [a, b]
    · by_cases c : n < m
      · have : ¬ m < n := by omega
        simp [a, b, c, this]
      · by_cases d : m < n <;> simp [a, b, c, d]
theorem wrong_fall {col key : Int → Int} (hk : ∀ n ∈ [(0 : Int), 1, 2, 3], key n = n) : ∀ n ∈ [(0 : Int), 1, 2, 3], ∀ m ∈ [(0 : Int), 1, 2, 3], wrong (fun a b => cmp2 (col a) (col b) (-1) (key a) (key b) (-1)) n m = lx (rks col) n m := by
  intro n hn m hm
  unfold wrong lx cmp2 cmp1
  simp only [rks_lt hn hm, rks_lt hm hn, hk n hn, hk m hm]
  by_cases a : col n < col m
  · simp [a]
  · by_cases b : col m < col n
    · simp [a, b]
    · by_cases c : n < m
      · simp [a, b, c]
      · by_cases d : m < n <;> simp [a, b, c, d]
theorem wrong_one {col : Int → Int} : ∀ n ∈ [(0 : Int), 1, 2, 3], ∀ m ∈ [(0 : Int), 1, 2, 3], wrong (fun a b => cmp1 (col a) (col b) 1) n m = col4 (rks col) m n := by
  intro n hn m hm
  unfold wrong col4 cmp1
  simp only [rks_lt hm hn]
  by_cases a : col n < col m
  · have : ¬ col m < col n := by omega
    simp [a, this]
  · by_cases b : col m < col n <;> simp [a, b]
theorem wrong_key {key : Int → Int} (hk : ∀ n ∈ [(0 : Int), 1, 2, 3], key n = n) : ∀ n ∈ [(0 : Int), 1, 2, 3], ∀ m ∈ [(0 : Int), 1, 2, 3], wrong (fun a b => cmp1 (key a) (key b) 1) n m = decide (m < n) := by
  intro n hn m hm
  unfold wrong cmp1
  simp only [hk n hn, hk m hm]
  by_cases a : n < m
  · have : ¬ m < n := by omega
    simp [a, this]
  · by_cases b : m < n <;> simp [a, b]
theorem rise_names {σ x : St} (h : Good σ) (hn : nms σ = [0, 1, 2, 3]) (r : Reach σ x) {col key : Int → Int} (hk : ∀ n ∈ [(0 : Int), 1, 2, 3], key n = n) :
    nms (ups.foldl (turn fun a b => cmp2 (col a) (col b) 1 (key a) (key b) 1) x) = srt (rks col) := by
  have hin := r.in h hn
  rw [r.names h _ ups_lt, (bubs_congr (wrong_rise hk) hin ups_lt).1]
  exact of_decide_eq_true (List.all_eq_true.mp (List.all_eq_true.mp rise_all _ (rks_in col)) _ hin)
theorem fall_names {σ x : St} (h : Good σ) (hn : nms σ = [0, 1, 2, 3]) (r : Reach σ x) {col key : Int → Int} (hk : ∀ n ∈ [(0 : Int), 1, 2, 3], key n = n) :
    nms (ups.foldl (turn fun a b => cmp2 (col a) (col b) (-1) (key a) (key b) (-1)) x) = (srt (rks col)).reverse := by
  have hin := r.in h hn
  rw [r.names h _ ups_lt, (bubs_congr (wrong_fall hk) hin ups_lt).1]
  exact of_decide_eq_true (List.all_eq_true.mp (List.all_eq_true.mp fall_all _ (rks_in col)) _ hin)
theorem one_names {σ : St} (h : Good σ) (hn : nms σ = [0, 1, 2, 3]) {col : Int → Int} : nms (downs.foldl (turn fun a b => cmp1 (col a) (col b) 1) σ) = srt (rks col) := by
  have hin := (Reach.start σ).in h hn
  rw [(Reach.start σ).names h _ downs_lt, (bubs_congr wrong_one hin downs_lt).1, hn]
  rfl
theorem back_names {σ x : St} (h : Good σ) (hn : nms σ = [0, 1, 2, 3]) (r : Reach σ x) {key : Int → Int} (hk : ∀ n ∈ [(0 : Int), 1, 2, 3], key n = n) :
    nms (downs.foldl (turn fun a b => cmp1 (key a) (key b) 1) x) = [0, 1, 2, 3] := by
  have hin := r.in h hn
  rw [r.names h _ downs_lt, (bubs_congr (wrong_key hk) hin downs_lt).1]
  exact of_decide_eq_true (List.all_eq_true.mp back_all _ hin)
theorem rise_same {σ x : St} (h : Good σ) (hn : nms σ = [0, 1, 2, 3]) (r : Reach σ x) {col key : Int → Int} (hk : ∀ n ∈ [(0 : Int), 1, 2, 3], key n = n) :
    ups.foldl (turn fun a b => cmp2 (col a) (col b) 1 (key a) (key b) 1) x = downs.foldl (turn fun a b => cmp1 (col a) (col b) 1) σ :=
  Reach.eq h hn (r.turns h _ ups_lt) ((Reach.start σ).turns h _ downs_lt) ((rise_names h hn r hk).trans (one_names h hn).symm)
theorem back_same {σ x : St} (h : Good σ) (hn : nms σ = [0, 1, 2, 3]) (r : Reach σ x) {key : Int → Int} (hk : ∀ n ∈ [(0 : Int), 1, 2, 3], key n = n) :
    downs.foldl (turn fun a b => cmp1 (key a) (key b) 1) x = σ :=
  Reach.eq h hn (r.turns h _ downs_lt) (Reach.start σ) ((back_names h hn r hk).trans hn.symm)
theorem cross_reach {st : List Th} {σ x y : St} (h : Inv st σ) (hn : nms σ = [0, 1, 2, 3]) (r : Reach σ x) (q : Reach σ y) (e : nms y = (nms x).reverse) : crossOne st (tolls 0 st) (tolls 1 st) x y := by
  obtain ⟨ks, hk, rfl⟩ := r
  obtain ⟨ls, hl, rfl⟩ := q
  exact cross_way h hn hk hl e
noncomputable def bk0 : Bk := ⟨0, 0, 0, 0, fun _ => 0⟩
theorem inv_start {a b c d : Th} (ha : a.nm = 0) (hb : b.nm = 1) (hc : c.nm = 2) (hd : d.nm = 3) {bk : Int → Bk} (h0 : ∀ n ∈ [(0 : Int), 1, 2, 3], (bk n).on = 0 ∧ (bk n).mo = 0 ∧ (bk n).gv = 0 ∧ (bk n).tk = 0 ∧ ∀ i ∈ [(0 : Int), 1, 2, 3], (bk n).c i = 0) :
    Inv [a, b, c, d] ⟨[a, b, c, d], bk⟩ ∧ nms ⟨[a, b, c, d], bk⟩ = [0, 1, 2, 3] := by
  refine ⟨⟨⟨a, b, c, d, rfl, ?_, ?_, ?_, ?_, ?_, ?_⟩, ⟨?_, ?_, ?_, ?_, trivial⟩, ?_, rfl, rfl⟩, ?_⟩
  · rw [ha, hb]; decide
  · rw [ha, hc]; decide
  · rw [ha, hd]; decide
  · rw [hb, hc]; decide
  · rw [hb, hd]; decide
  · rw [hc, hd]; decide
  · obtain ⟨e1, e2, e3, e4, _⟩ := h0 0 (by simp); exact ⟨by rw [ha]; decide, by rw [ha]; decide, a, by rw [ha]; rfl, by rw [ha]; exact e1, by rw [ha]; exact e2.trans (Int.sub_self _).symm, by rw [ha]; dsimp only; rw [e4, e3, e2]; rfl, rfl⟩
  · obtain ⟨e1, e2, e3, e4, _⟩ := h0 1 (by simp); exact ⟨by rw [hb]; decide, by rw [hb]; decide, b, by rw [hb]; rfl, by rw [hb]; exact e1, by rw [hb]; exact e2.trans (Int.sub_self _).symm, by rw [hb]; dsimp only; rw [e4, e3, e2]; rfl, rfl⟩
  · obtain ⟨e1, e2, e3, e4, _⟩ := h0 2 (by simp); exact ⟨by rw [hc]; decide, by rw [hc]; decide, c, by rw [hc]; rfl, by rw [hc]; exact e1, by rw [hc]; exact e2.trans (Int.sub_self _).symm, by rw [hc]; dsimp only; rw [e4, e3, e2]; rfl, rfl⟩
  · obtain ⟨e1, e2, e3, e4, _⟩ := h0 3 (by simp); exact ⟨by rw [hd]; decide, by rw [hd]; decide, d, by rw [hd]; rfl, by rw [hd]; exact e1, by rw [hd]; exact e2.trans (Int.sub_self _).symm, by rw [hd]; dsimp only; rw [e4, e3, e2]; rfl, rfl⟩
  · have pl : ∀ (i : Nat) (t : Th), [a, b, c, d][i]? = some t → t.nm = i ∧ t.nm ∈ [(0 : Int), 1, 2, 3] := by
      intro i t ht
      match i, ht with
      | 0, ht => have := Option.some.inj ht; subst this; rw [ha]; decide
      | 1, ht => have := Option.some.inj ht; subst this; rw [hb]; decide
      | 2, ht => have := Option.some.inj ht; subst this; rw [hc]; decide
      | 3, ht => have := Option.some.inj ht; subst this; rw [hd]; decide
      | n + 4, ht => simp at ht
    intro i j t u ht hu
    obtain ⟨e1, m1⟩ := pl i t ht
    obtain ⟨e2, m2⟩ := pl j u hu
    rw [(h0 _ m1).2.2.2.2 _ m2, e1, e2]
    by_cases q : j < i
    · rw [if_pos q, if_pos (by omega)]; rfl
    · rw [if_neg q, if_neg (by omega)]; rfl
  · show [a.nm, b.nm, c.nm, d.nm] = _; rw [ha, hb, hc, hd]
end
section
open PySem PySem.W PyProof.Rows
set_option maxRecDepth 100000
set_option maxHeartbeats 8000000
noncomputable abbrev PW : Program := PySem.Challenge.pw_xp0027_01
noncomputable def nth (l : List Stmt) (n : Nat) : Stmt := match l, n with
  | [], _ => .Pass ⟨0, 0, 0, 0⟩
  | s :: _, 0 => s
  | _ :: r, n + 1 => nth r n
noncomputable def stAt (n : Nat) : Stmt := nth PW.main.body n
noncomputable def stIn (n k : Nat) : Stmt := match stAt n with
  | .ClassDef _ _ _ b _ _ _ _ _ _ _ => nth b k
  | s => s
noncomputable def fP (s : Stmt) : Arguments := match s with
  | .FunctionDef _ a _ _ _ _ _ _ _ _ => a
  | _ => ⟨[], [], none, [], [], none, []⟩
noncomputable def fB (s : Stmt) : List Stmt := match s with
  | .FunctionDef _ _ b _ _ _ _ _ _ _ => b
  | _ => []
noncomputable def fS (s : Stmt) : Scope := match s with
  | .FunctionDef _ _ _ _ _ _ c _ _ _ => c
  | _ => ⟨.function, [], false, false, []⟩
noncomputable def K9 : Params → Frag := fun P =>
  (nat_lit 2, Obj.mk Value.none Option.none (Data.dict #[]) #[]) ::
  (nat_lit 3, Obj.mk (Value.type "dict") Option.none (Data.dict #[DictEntry.mk (PyData.keyHash P (Str.ofString "__name__")) (Value.str (Str.ofString "__name__") 165) (Value.str (Str.ofString "law_xp0027_01") 415), DictEntry.mk (PyData.keyHash P (Str.ofString "__doc__")) (Value.str (Str.ofString "__doc__") 166) Value.none, DictEntry.mk (PyData.keyHash P (Str.ofString "__package__")) (Value.str (Str.ofString "__package__") 167) Value.none, DictEntry.mk (PyData.keyHash P (Str.ofString "__loader__")) (Value.str (Str.ofString "__loader__") 168) (Value.builtin "__main__.__loader__#opaque"), DictEntry.mk (PyData.keyHash P (Str.ofString "__spec__")) (Value.str (Str.ofString "__spec__") 169) Value.none, DictEntry.mk (PyData.keyHash P (Str.ofString "__annotations__")) (Value.str (Str.ofString "__annotations__") 170) (Value.ref 6), DictEntry.mk (PyData.keyHash P (Str.ofString "__builtins__")) (Value.str (Str.ofString "__builtins__") 171) (Value.ref 4), DictEntry.mk (PyData.keyHash P (Str.ofString "__file__")) (Value.str (Str.ofString "__file__") 173) (Value.str (Str.ofString "/claim/cut.py") 172), DictEntry.mk (PyData.keyHash P (Str.ofString "__cached__")) (Value.str (Str.ofString "__cached__") 174) Value.none, DictEntry.mk (PyData.keyHash P (Str.ofString "_wall")) (Value.str (Str.ofString "_wall") 193) (Value.ref 21), DictEntry.mk (PyData.keyHash P (Str.ofString "gt")) (Value.str (Str.ofString "gt") 203) (Value.ref 28), DictEntry.mk (PyData.keyHash P (Str.ofString "neg")) (Value.str (Str.ofString "neg") 210) (Value.ref 35), DictEntry.mk (PyData.keyHash P (Str.ofString "iadd")) (Value.str (Str.ofString "iadd") 218) (Value.ref 42), DictEntry.mk (PyData.keyHash P (Str.ofString "isub")) (Value.str (Str.ofString "isub") 226) (Value.ref 49), DictEntry.mk (PyData.keyHash P (Str.ofString "TupleComp")) (Value.str (Str.ofString "TupleComp") 270) (Value.ref 73), DictEntry.mk (PyData.keyHash P (Str.ofString "add_func_stats")) (Value.str (Str.ofString "add_func_stats") 288) (Value.ref 84), DictEntry.mk (PyData.keyHash P (Str.ofString "add_callers")) (Value.str (Str.ofString "add_callers") 299) (Value.ref 91), DictEntry.mk (PyData.keyHash P (Str.ofString "Whitespace")) (Value.str (Str.ofString "Whitespace") 401) (Value.ref 153), DictEntry.mk (PyData.keyHash P (Str.ofString "_byteswap")) (Value.str (Str.ofString "_byteswap") 414) (Value.ref 164), DictEntry.mk (PyData.keyHash P (Str.ofString "_law_draws")) (Value.str (Str.ofString "_law_draws") 426) (Value.ref 171), DictEntry.mk (PyData.keyHash P (Str.ofString "_law_lead")) (Value.str (Str.ofString "_law_lead") 433) (Value.ref 178), DictEntry.mk (PyData.keyHash P (Str.ofString "_law_column")) (Value.str (Str.ofString "_law_column") 443) (Value.ref 185), DictEntry.mk (PyData.keyHash P (Str.ofString "_law_less")) (Value.str (Str.ofString "_law_less") 456) (Value.ref 192), DictEntry.mk (PyData.keyHash P (Str.ofString "_law_past")) (Value.str (Str.ofString "_law_past") 472) (Value.ref 199), DictEntry.mk (PyData.keyHash P (Str.ofString "_law_laid")) (Value.str (Str.ofString "_law_laid") 486) (Value.ref 206), DictEntry.mk (PyData.keyHash P (Str.ofString "_law_tolls")) (Value.str (Str.ofString "_law_tolls") 492) (Value.ref 211), DictEntry.mk (PyData.keyHash P (Str.ofString "_law_room")) (Value.str (Str.ofString "_law_room") 500) (Value.ref 218), DictEntry.mk (PyData.keyHash P (Str.ofString "_law_across")) (Value.str (Str.ofString "_law_across") 506) (Value.ref 223), DictEntry.mk (PyData.keyHash P (Str.ofString "_law_names")) (Value.str (Str.ofString "_law_names") 512) (Value.ref 228), DictEntry.mk (PyData.keyHash P (Str.ofString "_law_fits")) (Value.str (Str.ofString "_law_fits") 518) (Value.ref 233), DictEntry.mk (PyData.keyHash P (Str.ofString "_law_crossed")) (Value.str (Str.ofString "_law_crossed") 534) (Value.ref 240), DictEntry.mk (PyData.keyHash P (Str.ofString "_law_order")) (Value.str (Str.ofString "_law_order") 544) (Value.ref 247), DictEntry.mk (PyData.keyHash P (Str.ofString "law")) (Value.str (Str.ofString "law") 550) (Value.ref 252)] 33) #[]) ::
  (nat_lit 15, Obj.mk (Value.type "tuple") Option.none (Data.seq #[]) #[]) ::
  (nat_lit 17, Obj.mk (Value.type "tuple") Option.none (Data.seq #[Value.str (Str.ofString "k") 190]) #[]) ::
  (nat_lit 18, Obj.mk (Value.type "tuple") Option.none (Data.seq #[]) #[]) ::
  (nat_lit 20, Obj.mk (Value.type "code") Option.none (Data.fields #[Value.str (Str.ofString "_wall") 187, Value.str (Str.ofString "_wall") 188, Value.str (Str.ofString "/claim/cut.py") 189, Value.int 1 0, Value.int 1 0, Value.int 0 0, Value.int 0 0, Value.int 3 0, Value.ref 15, Value.bool Bool.true, Value.int 181 0, Value.ref 16, Value.none, Value.ref 17, Value.ref 18, Value.ref 19, Value.int 191 0, Value.int 1 0, Value.str (Str.ofString "/claim/cut.py") 192]) #[]) ::
  (nat_lit 21, Obj.mk (Value.type "function") Option.none (Data.func (FuncData.mk (Str.ofString "_wall") (Str.ofString "_wall") (fP (stAt 0)) (.stmts (fB (stAt 0))) (fS (stAt 0)) 3 [] Value.none Value.none Value.none (Value.str (Str.ofString "__main__") 164) Option.none (Value.ref 20) Value.none 0)) #[]) ::
  (nat_lit 22, Obj.mk (Value.type "tuple") Option.none (Data.seq #[]) #[]) ::
  (nat_lit 24, Obj.mk (Value.type "tuple") Option.none (Data.seq #[Value.str (Str.ofString "a") 199, Value.str (Str.ofString "b") 200]) #[]) ::
  (nat_lit 25, Obj.mk (Value.type "tuple") Option.none (Data.seq #[]) #[]) ::
  (nat_lit 27, Obj.mk (Value.type "code") Option.none (Data.fields #[Value.str (Str.ofString "gt") 196, Value.str (Str.ofString "gt") 197, Value.str (Str.ofString "/claim/cut.py") 198, Value.int 5 0, Value.int 2 0, Value.int 0 0, Value.int 0 0, Value.int 3 0, Value.ref 22, Value.bool Bool.true, Value.int 181 0, Value.ref 23, Value.none, Value.ref 24, Value.ref 25, Value.ref 26, Value.int 201 0, Value.int 5 0, Value.str (Str.ofString "/claim/cut.py") 202]) #[]) ::
  (nat_lit 28, Obj.mk (Value.type "function") Option.none (Data.func (FuncData.mk (Str.ofString "gt") (Str.ofString "gt") (fP (stAt 2)) (.stmts (fB (stAt 2))) (fS (stAt 2)) 3 [] Value.none Value.none Value.none (Value.str (Str.ofString "cpy313.operator") 194) Option.none (Value.ref 27) Value.none 0)) #[]) ::
  (nat_lit 29, Obj.mk (Value.type "tuple") Option.none (Data.seq #[]) #[]) ::
  (nat_lit 31, Obj.mk (Value.type "tuple") Option.none (Data.seq #[Value.str (Str.ofString "a") 207]) #[]) ::
  (nat_lit 32, Obj.mk (Value.type "tuple") Option.none (Data.seq #[]) #[]) ::
  (nat_lit 34, Obj.mk (Value.type "code") Option.none (Data.fields #[Value.str (Str.ofString "neg") 204, Value.str (Str.ofString "neg") 205, Value.str (Str.ofString "/claim/cut.py") 206, Value.int 7 0, Value.int 1 0, Value.int 0 0, Value.int 0 0, Value.int 3 0, Value.ref 29, Value.bool Bool.true, Value.int 181 0, Value.ref 30, Value.none, Value.ref 31, Value.ref 32, Value.ref 33, Value.int 208 0, Value.int 7 0, Value.str (Str.ofString "/claim/cut.py") 209]) #[]) ::
  (nat_lit 35, Obj.mk (Value.type "function") Option.none (Data.func (FuncData.mk (Str.ofString "neg") (Str.ofString "neg") (fP (stAt 3)) (.stmts (fB (stAt 3))) (fS (stAt 3)) 3 [] Value.none Value.none Value.none (Value.str (Str.ofString "cpy313.operator") 194) Option.none (Value.ref 34) Value.none 0)) #[]) ::
  (nat_lit 36, Obj.mk (Value.type "tuple") Option.none (Data.seq #[]) #[]) ::
  (nat_lit 38, Obj.mk (Value.type "tuple") Option.none (Data.seq #[Value.str (Str.ofString "a") 214, Value.str (Str.ofString "b") 215]) #[]) ::
  (nat_lit 39, Obj.mk (Value.type "tuple") Option.none (Data.seq #[]) #[]) ::
  (nat_lit 41, Obj.mk (Value.type "code") Option.none (Data.fields #[Value.str (Str.ofString "iadd") 211, Value.str (Str.ofString "iadd") 212, Value.str (Str.ofString "/claim/cut.py") 213, Value.int 9 0, Value.int 2 0, Value.int 0 0, Value.int 0 0, Value.int 3 0, Value.ref 36, Value.bool Bool.true, Value.int 181 0, Value.ref 37, Value.none, Value.ref 38, Value.ref 39, Value.ref 40, Value.int 216 0, Value.int 9 0, Value.str (Str.ofString "/claim/cut.py") 217]) #[]) ::
  (nat_lit 42, Obj.mk (Value.type "function") Option.none (Data.func (FuncData.mk (Str.ofString "iadd") (Str.ofString "iadd") (fP (stAt 4)) (.stmts (fB (stAt 4))) (fS (stAt 4)) 3 [] Value.none Value.none Value.none (Value.str (Str.ofString "cpy313.operator") 194) Option.none (Value.ref 41) Value.none 0)) #[]) ::
  (nat_lit 43, Obj.mk (Value.type "tuple") Option.none (Data.seq #[]) #[]) ::
  (nat_lit 45, Obj.mk (Value.type "tuple") Option.none (Data.seq #[Value.str (Str.ofString "a") 222, Value.str (Str.ofString "b") 223]) #[]) ::
  (nat_lit 46, Obj.mk (Value.type "tuple") Option.none (Data.seq #[]) #[]) ::
  (nat_lit 48, Obj.mk (Value.type "code") Option.none (Data.fields #[Value.str (Str.ofString "isub") 219, Value.str (Str.ofString "isub") 220, Value.str (Str.ofString "/claim/cut.py") 221, Value.int 12 0, Value.int 2 0, Value.int 0 0, Value.int 0 0, Value.int 3 0, Value.ref 43, Value.bool Bool.true, Value.int 181 0, Value.ref 44, Value.none, Value.ref 45, Value.ref 46, Value.ref 47, Value.int 224 0, Value.int 12 0, Value.str (Str.ofString "/claim/cut.py") 225]) #[]) ::
  (nat_lit 49, Obj.mk (Value.type "function") Option.none (Data.func (FuncData.mk (Str.ofString "isub") (Str.ofString "isub") (fP (stAt 5)) (.stmts (fB (stAt 5))) (fS (stAt 5)) 3 [] Value.none Value.none Value.none (Value.str (Str.ofString "cpy313.operator") 194) Option.none (Value.ref 48) Value.none 0)) #[]) ::
  (nat_lit 57, Obj.mk (Value.type "tuple") Option.none (Data.seq #[]) #[]) ::
  (nat_lit 59, Obj.mk (Value.type "tuple") Option.none (Data.seq #[Value.str (Str.ofString "self") 244, Value.str (Str.ofString "comp_select_list") 245]) #[]) ::
  (nat_lit 60, Obj.mk (Value.type "tuple") Option.none (Data.seq #[]) #[]) ::
  (nat_lit 62, Obj.mk (Value.type "code") Option.none (Data.fields #[Value.str (Str.ofString "__init__") 241, Value.str (Str.ofString "TupleComp.__init__") 242, Value.str (Str.ofString "/claim/cut.py") 243, Value.int 18 0, Value.int 2 0, Value.int 0 0, Value.int 0 0, Value.int 3 0, Value.ref 57, Value.bool Bool.true, Value.int 181 0, Value.ref 58, Value.none, Value.ref 59, Value.ref 60, Value.ref 61, Value.int 246 0, Value.int 18 0, Value.str (Str.ofString "/claim/cut.py") 247]) #[]) ::
  (nat_lit 63, Obj.mk (Value.type "function") Option.none (Data.func (FuncData.mk (Str.ofString "__init__") (Str.ofString "TupleComp.__init__") (fP (stIn 7 0)) (.stmts (fB (stIn 7 0))) (fS (stIn 7 0)) 3 [] Value.none Value.none Value.none (Value.str (Str.ofString "cpy313.pstats") 227) Option.none (Value.ref 62) Value.none 0)) #[]) ::
  (nat_lit 64, Obj.mk (Value.type "tuple") Option.none (Data.seq #[]) #[]) ::
  (nat_lit 66, Obj.mk (Value.type "tuple") Option.none (Data.seq #[Value.str (Str.ofString "self") 252, Value.str (Str.ofString "left") 253, Value.str (Str.ofString "right") 254, Value.str (Str.ofString "index") 255, Value.str (Str.ofString "direction") 256, Value.str (Str.ofString "l") 257, Value.str (Str.ofString "r") 258]) #[]) ::
  (nat_lit 67, Obj.mk (Value.type "tuple") Option.none (Data.seq #[]) #[]) ::
  (nat_lit 69, Obj.mk (Value.type "code") Option.none (Data.fields #[Value.str (Str.ofString "compare") 249, Value.str (Str.ofString "TupleComp.compare") 250, Value.str (Str.ofString "/claim/cut.py") 251, Value.int 21 0, Value.int 3 0, Value.int 0 0, Value.int 0 0, Value.int 3 0, Value.ref 64, Value.bool Bool.true, Value.int 181 0, Value.ref 65, Value.none, Value.ref 66, Value.ref 67, Value.ref 68, Value.int 259 0, Value.int 21 0, Value.str (Str.ofString "/claim/cut.py") 260]) #[]) ::
  (nat_lit 70, Obj.mk (Value.type "function") Option.none (Data.func (FuncData.mk (Str.ofString "compare") (Str.ofString "TupleComp.compare") (fP (stIn 7 1)) (.stmts (fB (stIn 7 1))) (fS (stIn 7 1)) 3 [] Value.none Value.none Value.none (Value.str (Str.ofString "cpy313.pstats") 227) Option.none (Value.ref 69) Value.none 0)) #[]) ::
  (nat_lit 71, Obj.mk (Value.type "tuple") Option.none (Data.seq #[Value.str (Str.ofString "comp_select_list") 262]) #[]) ::
  (nat_lit 72, Obj.mk (Value.type "dict") Option.none (Data.dict #[DictEntry.mk (PyData.keyHash P (Str.ofString "__module__")) (Value.str (Str.ofString "__module__") 236) (Value.str (Str.ofString "cpy313.pstats") 227), DictEntry.mk (PyData.keyHash P (Str.ofString "__firstlineno__")) (Value.str (Str.ofString "__firstlineno__") 240) (Value.int 16 239), DictEntry.mk (PyData.keyHash P (Str.ofString "__init__")) (Value.str (Str.ofString "__init__") 248) (Value.ref 63), DictEntry.mk (PyData.keyHash P (Str.ofString "compare")) (Value.str (Str.ofString "compare") 261) (Value.ref 70), DictEntry.mk (PyData.keyHash P (Str.ofString "__static_attributes__")) (Value.str (Str.ofString "__static_attributes__") 263) (Value.ref 71), DictEntry.mk (PyData.keyHash P (Str.ofString "__dict__")) (Value.str (Str.ofString "__dict__") 265) (Value.ref 74), DictEntry.mk (PyData.keyHash P (Str.ofString "__weakref__")) (Value.str (Str.ofString "__weakref__") 267) (Value.ref 75), DictEntry.mk (PyData.keyHash P (Str.ofString "__doc__")) (Value.str (Str.ofString "__doc__") 268) Value.none] 4) #[]) ::
  (nat_lit 73, Obj.mk (Value.type "type") Option.none (Data.cls (ClassData.mk (Str.ofString "TupleComp") [Value.type "object"] [Value.ref 73, Value.type "object"] 72 (Str.ofString "TupleComp") Bool.true [] [] Bool.false Option.none Bool.false)) #[Option.none, Option.none, Option.some (Value.str (Str.ofString "TupleComp") 229), Option.some (Value.str (Str.ofString "TupleComp") 237), Option.some (Value.builtin "object.__new__"), Option.some (Value.bool Bool.true)]) ::
  (nat_lit 74, Obj.mk (Value.type "getset_descriptor") Option.none (Data.fields #[Value.str (Str.ofString "__dict__") 264, Value.ref 73, Value.builtin "function.__dict__", Value.builtin "function.__dict__#set"]) #[]) ::
  (nat_lit 75, Obj.mk (Value.type "getset_descriptor") Option.none (Data.fields #[Value.str (Str.ofString "__weakref__") 266, Value.ref 73, Value.builtin "ExceptionGroup.__weakref__", Value.none]) #[]) ::
  (nat_lit 78, Obj.mk (Value.type "tuple") Option.none (Data.seq #[]) #[]) ::
  (nat_lit 80, Obj.mk (Value.type "tuple") Option.none (Data.seq #[Value.str (Str.ofString "target") 274, Value.str (Str.ofString "source") 275, Value.str (Str.ofString "cc") 276, Value.str (Str.ofString "nc") 277, Value.str (Str.ofString "tt") 278, Value.str (Str.ofString "ct") 279, Value.str (Str.ofString "callers") 280, Value.str (Str.ofString "t_cc") 281, Value.str (Str.ofString "t_nc") 282, Value.str (Str.ofString "t_tt") 283, Value.str (Str.ofString "t_ct") 284, Value.str (Str.ofString "t_callers") 285]) #[]) ::
  (nat_lit 81, Obj.mk (Value.type "tuple") Option.none (Data.seq #[]) #[]) ::
  (nat_lit 83, Obj.mk (Value.type "code") Option.none (Data.fields #[Value.str (Str.ofString "add_func_stats") 271, Value.str (Str.ofString "add_func_stats") 272, Value.str (Str.ofString "/claim/cut.py") 273, Value.int 30 0, Value.int 2 0, Value.int 0 0, Value.int 0 0, Value.int 3 0, Value.ref 78, Value.bool Bool.true, Value.int 181 0, Value.ref 79, Value.none, Value.ref 80, Value.ref 81, Value.ref 82, Value.int 286 0, Value.int 30 0, Value.str (Str.ofString "/claim/cut.py") 287]) #[]) ::
  (nat_lit 84, Obj.mk (Value.type "function") Option.none (Data.func (FuncData.mk (Str.ofString "add_func_stats") (Str.ofString "add_func_stats") (fP (stAt 8)) (.stmts (fB (stAt 8))) (fS (stAt 8)) 3 [] Value.none Value.none Value.none (Value.str (Str.ofString "cpy313.pstats") 227) Option.none (Value.ref 83) Value.none 0)) #[]) ::
  (nat_lit 85, Obj.mk (Value.type "tuple") Option.none (Data.seq #[]) #[]) ::
  (nat_lit 87, Obj.mk (Value.type "tuple") Option.none (Data.seq #[Value.str (Str.ofString "target") 292, Value.str (Str.ofString "source") 293, Value.str (Str.ofString "new_callers") 294, Value.str (Str.ofString "func") 295, Value.str (Str.ofString "caller") 296]) #[]) ::
  (nat_lit 88, Obj.mk (Value.type "tuple") Option.none (Data.seq #[]) #[]) ::
  (nat_lit 90, Obj.mk (Value.type "code") Option.none (Data.fields #[Value.str (Str.ofString "add_callers") 289, Value.str (Str.ofString "add_callers") 290, Value.str (Str.ofString "/claim/cut.py") 291, Value.int 34 0, Value.int 2 0, Value.int 0 0, Value.int 0 0, Value.int 3 0, Value.ref 85, Value.bool Bool.true, Value.int 181 0, Value.ref 86, Value.none, Value.ref 87, Value.ref 88, Value.ref 89, Value.int 297 0, Value.int 34 0, Value.str (Str.ofString "/claim/cut.py") 298]) #[]) ::
  (nat_lit 91, Obj.mk (Value.type "function") Option.none (Data.func (FuncData.mk (Str.ofString "add_callers") (Str.ofString "add_callers") (fP (stAt 9)) (.stmts (fB (stAt 9))) (fS (stAt 9)) 3 [] Value.none Value.none Value.none (Value.str (Str.ofString "cpy313.pstats") 227) Option.none (Value.ref 90) Value.none 0)) #[]) ::
  (nat_lit 102, Obj.mk (Value.type "tuple") Option.none (Data.seq #[]) #[]) ::
  (nat_lit 104, Obj.mk (Value.type "tuple") Option.none (Data.seq #[Value.str (Str.ofString "self") 322, Value.str (Str.ofString "ws") 323, Value.str (Str.ofString "S") 324, Value.str (Str.ofString "T") 325, Value.str (Str.ofString "count") 326, Value.str (Str.ofString "b") 327, Value.str (Str.ofString "n") 328, Value.str (Str.ofString "nt") 329, Value.str (Str.ofString "ch") 330]) #[]) ::
  (nat_lit 105, Obj.mk (Value.type "tuple") Option.none (Data.seq #[]) #[]) ::
  (nat_lit 107, Obj.mk (Value.type "code") Option.none (Data.fields #[Value.str (Str.ofString "__init__") 319, Value.str (Str.ofString "Whitespace.__init__") 320, Value.str (Str.ofString "/claim/cut.py") 321, Value.int 51 0, Value.int 2 0, Value.int 0 0, Value.int 0 0, Value.int 3 0, Value.ref 102, Value.bool Bool.true, Value.int 181 0, Value.ref 103, Value.none, Value.ref 104, Value.ref 105, Value.ref 106, Value.int 331 0, Value.int 51 0, Value.str (Str.ofString "/claim/cut.py") 332]) #[]) ::
  (nat_lit 108, Obj.mk (Value.type "function") Option.none (Data.func (FuncData.mk (Str.ofString "__init__") (Str.ofString "Whitespace.__init__") (fP (stIn 11 1)) (.stmts (fB (stIn 11 1))) (fS (stIn 11 1)) 3 [] Value.none Value.none Value.none (Value.str (Str.ofString "cpy313.tabnanny") 300) Option.none (Value.ref 107) Value.none 0)) #[]) ::
  (nat_lit 109, Obj.mk (Value.type "tuple") Option.none (Data.seq #[]) #[]) ::
  (nat_lit 111, Obj.mk (Value.type "tuple") Option.none (Data.seq #[Value.str (Str.ofString "self") 337, Value.str (Str.ofString "count") 338, Value.str (Str.ofString "trailing") 339]) #[]) ::
  (nat_lit 112, Obj.mk (Value.type "tuple") Option.none (Data.seq #[]) #[]) ::
  (nat_lit 114, Obj.mk (Value.type "code") Option.none (Data.fields #[Value.str (Str.ofString "longest_run_of_spaces") 334, Value.str (Str.ofString "Whitespace.longest_run_of_spaces") 335, Value.str (Str.ofString "/claim/cut.py") 336, Value.int 74 0, Value.int 1 0, Value.int 0 0, Value.int 0 0, Value.int 3 0, Value.ref 109, Value.bool Bool.true, Value.int 181 0, Value.ref 110, Value.none, Value.ref 111, Value.ref 112, Value.ref 113, Value.int 340 0, Value.int 74 0, Value.str (Str.ofString "/claim/cut.py") 341]) #[]) ::
  (nat_lit 115, Obj.mk (Value.type "function") Option.none (Data.func (FuncData.mk (Str.ofString "longest_run_of_spaces") (Str.ofString "Whitespace.longest_run_of_spaces") (fP (stIn 11 2)) (.stmts (fB (stIn 11 2))) (fS (stIn 11 2)) 3 [] Value.none Value.none Value.none (Value.str (Str.ofString "cpy313.tabnanny") 300) Option.none (Value.ref 114) Value.none 0)) #[]) ::
  (nat_lit 116, Obj.mk (Value.type "tuple") Option.none (Data.seq #[]) #[]) ::
  (nat_lit 118, Obj.mk (Value.type "tuple") Option.none (Data.seq #[Value.str (Str.ofString "self") 346, Value.str (Str.ofString "tabsize") 347, Value.str (Str.ofString "count") 348, Value.str (Str.ofString "trailing") 349, Value.str (Str.ofString "il") 350, Value.str (Str.ofString "i") 351]) #[]) ::
  (nat_lit 119, Obj.mk (Value.type "tuple") Option.none (Data.seq #[]) #[]) ::
  (nat_lit 121, Obj.mk (Value.type "code") Option.none (Data.fields #[Value.str (Str.ofString "indent_level") 343, Value.str (Str.ofString "Whitespace.indent_level") 344, Value.str (Str.ofString "/claim/cut.py") 345, Value.int 78 0, Value.int 2 0, Value.int 0 0, Value.int 0 0, Value.int 3 0, Value.ref 116, Value.bool Bool.true, Value.int 181 0, Value.ref 117, Value.none, Value.ref 118, Value.ref 119, Value.ref 120, Value.int 352 0, Value.int 78 0, Value.str (Str.ofString "/claim/cut.py") 353]) #[]) ::
  (nat_lit 122, Obj.mk (Value.type "function") Option.none (Data.func (FuncData.mk (Str.ofString "indent_level") (Str.ofString "Whitespace.indent_level") (fP (stIn 11 3)) (.stmts (fB (stIn 11 3))) (fS (stIn 11 3)) 3 [] Value.none Value.none Value.none (Value.str (Str.ofString "cpy313.tabnanny") 300) Option.none (Value.ref 121) Value.none 0)) #[]) ::
  (nat_lit 123, Obj.mk (Value.type "tuple") Option.none (Data.seq #[]) #[]) ::
  (nat_lit 125, Obj.mk (Value.type "tuple") Option.none (Data.seq #[Value.str (Str.ofString "self") 358, Value.str (Str.ofString "other") 359]) #[]) ::
  (nat_lit 126, Obj.mk (Value.type "tuple") Option.none (Data.seq #[]) #[]) ::
  (nat_lit 128, Obj.mk (Value.type "code") Option.none (Data.fields #[Value.str (Str.ofString "equal") 355, Value.str (Str.ofString "Whitespace.equal") 356, Value.str (Str.ofString "/claim/cut.py") 357, Value.int 85 0, Value.int 2 0, Value.int 0 0, Value.int 0 0, Value.int 3 0, Value.ref 123, Value.bool Bool.true, Value.int 181 0, Value.ref 124, Value.none, Value.ref 125, Value.ref 126, Value.ref 127, Value.int 360 0, Value.int 85 0, Value.str (Str.ofString "/claim/cut.py") 361]) #[]) ::
  (nat_lit 129, Obj.mk (Value.type "function") Option.none (Data.func (FuncData.mk (Str.ofString "equal") (Str.ofString "Whitespace.equal") (fP (stIn 11 4)) (.stmts (fB (stIn 11 4))) (fS (stIn 11 4)) 3 [] Value.none Value.none Value.none (Value.str (Str.ofString "cpy313.tabnanny") 300) Option.none (Value.ref 128) Value.none 0)) #[]) ::
  (nat_lit 130, Obj.mk (Value.type "tuple") Option.none (Data.seq #[]) #[]) ::
  (nat_lit 132, Obj.mk (Value.type "tuple") Option.none (Data.seq #[Value.str (Str.ofString "self") 366, Value.str (Str.ofString "other") 367]) #[]) ::
  (nat_lit 133, Obj.mk (Value.type "tuple") Option.none (Data.seq #[]) #[]) ::
  (nat_lit 135, Obj.mk (Value.type "code") Option.none (Data.fields #[Value.str (Str.ofString "not_equal_witness") 363, Value.str (Str.ofString "Whitespace.not_equal_witness") 364, Value.str (Str.ofString "/claim/cut.py") 365, Value.int 88 0, Value.int 2 0, Value.int 0 0, Value.int 0 0, Value.int 3 0, Value.ref 130, Value.bool Bool.true, Value.int 181 0, Value.ref 131, Value.none, Value.ref 132, Value.ref 133, Value.ref 134, Value.int 368 0, Value.int 88 0, Value.str (Str.ofString "/claim/cut.py") 369]) #[]) ::
  (nat_lit 136, Obj.mk (Value.type "function") Option.none (Data.func (FuncData.mk (Str.ofString "not_equal_witness") (Str.ofString "Whitespace.not_equal_witness") (fP (stIn 11 5)) (.stmts (fB (stIn 11 5))) (fS (stIn 11 5)) 3 [] Value.none Value.none Value.none (Value.str (Str.ofString "cpy313.tabnanny") 300) Option.none (Value.ref 135) Value.none 0)) #[]) ::
  (nat_lit 137, Obj.mk (Value.type "tuple") Option.none (Data.seq #[]) #[]) ::
  (nat_lit 139, Obj.mk (Value.type "tuple") Option.none (Data.seq #[Value.str (Str.ofString "self") 374, Value.str (Str.ofString "other") 375, Value.str (Str.ofString "n") 376, Value.str (Str.ofString "ts") 377]) #[]) ::
  (nat_lit 140, Obj.mk (Value.type "tuple") Option.none (Data.seq #[]) #[]) ::
  (nat_lit 142, Obj.mk (Value.type "code") Option.none (Data.fields #[Value.str (Str.ofString "less") 371, Value.str (Str.ofString "Whitespace.less") 372, Value.str (Str.ofString "/claim/cut.py") 373, Value.int 91 0, Value.int 2 0, Value.int 0 0, Value.int 0 0, Value.int 3 0, Value.ref 137, Value.bool Bool.true, Value.int 181 0, Value.ref 138, Value.none, Value.ref 139, Value.ref 140, Value.ref 141, Value.int 378 0, Value.int 91 0, Value.str (Str.ofString "/claim/cut.py") 379]) #[]) ::
  (nat_lit 143, Obj.mk (Value.type "function") Option.none (Data.func (FuncData.mk (Str.ofString "less") (Str.ofString "Whitespace.less") (fP (stIn 11 6)) (.stmts (fB (stIn 11 6))) (fS (stIn 11 6)) 3 [] Value.none Value.none Value.none (Value.str (Str.ofString "cpy313.tabnanny") 300) Option.none (Value.ref 142) Value.none 0)) #[]) ::
  (nat_lit 144, Obj.mk (Value.type "tuple") Option.none (Data.seq #[]) #[]) ::
  (nat_lit 146, Obj.mk (Value.type "tuple") Option.none (Data.seq #[Value.str (Str.ofString "self") 384, Value.str (Str.ofString "other") 385]) #[]) ::
  (nat_lit 147, Obj.mk (Value.type "tuple") Option.none (Data.seq #[]) #[]) ::
  (nat_lit 149, Obj.mk (Value.type "code") Option.none (Data.fields #[Value.str (Str.ofString "not_less_witness") 381, Value.str (Str.ofString "Whitespace.not_less_witness") 382, Value.str (Str.ofString "/claim/cut.py") 383, Value.int 102 0, Value.int 2 0, Value.int 0 0, Value.int 0 0, Value.int 3 0, Value.ref 144, Value.bool Bool.true, Value.int 181 0, Value.ref 145, Value.none, Value.ref 146, Value.ref 147, Value.ref 148, Value.int 386 0, Value.int 102 0, Value.str (Str.ofString "/claim/cut.py") 387]) #[]) ::
  (nat_lit 150, Obj.mk (Value.type "function") Option.none (Data.func (FuncData.mk (Str.ofString "not_less_witness") (Str.ofString "Whitespace.not_less_witness") (fP (stIn 11 7)) (.stmts (fB (stIn 11 7))) (fS (stIn 11 7)) 3 [] Value.none Value.none Value.none (Value.str (Str.ofString "cpy313.tabnanny") 300) Option.none (Value.ref 149) Value.none 0)) #[]) ::
  (nat_lit 151, Obj.mk (Value.type "tuple") Option.none (Data.seq #[Value.str (Str.ofString "is_simple") 389, Value.str (Str.ofString "n") 390, Value.str (Str.ofString "norm") 391, Value.str (Str.ofString "nt") 392, Value.str (Str.ofString "raw") 393]) #[]) ::
  (nat_lit 152, Obj.mk (Value.type "dict") Option.none (Data.dict #[DictEntry.mk (PyData.keyHash P (Str.ofString "__module__")) (Value.str (Str.ofString "__module__") 309) (Value.str (Str.ofString "cpy313.tabnanny") 300), DictEntry.mk (PyData.keyHash P (Str.ofString "__firstlineno__")) (Value.str (Str.ofString "__firstlineno__") 313) (Value.int 48 312), DictEntry.mk (PyData.keyHash P (Str.ofString "S")) (Value.str (Str.ofString "S") 317) (Value.str (Str.ofString " ") 315), DictEntry.mk (PyData.keyHash P (Str.ofString "T")) (Value.str (Str.ofString "T") 318) (Value.str (Str.ofString "\t") 316), DictEntry.mk (PyData.keyHash P (Str.ofString "__init__")) (Value.str (Str.ofString "__init__") 333) (Value.ref 108), DictEntry.mk (PyData.keyHash P (Str.ofString "longest_run_of_spaces")) (Value.str (Str.ofString "longest_run_of_spaces") 342) (Value.ref 115), DictEntry.mk (PyData.keyHash P (Str.ofString "indent_level")) (Value.str (Str.ofString "indent_level") 354) (Value.ref 122), DictEntry.mk (PyData.keyHash P (Str.ofString "equal")) (Value.str (Str.ofString "equal") 362) (Value.ref 129), DictEntry.mk (PyData.keyHash P (Str.ofString "not_equal_witness")) (Value.str (Str.ofString "not_equal_witness") 370) (Value.ref 136), DictEntry.mk (PyData.keyHash P (Str.ofString "less")) (Value.str (Str.ofString "less") 380) (Value.ref 143), DictEntry.mk (PyData.keyHash P (Str.ofString "not_less_witness")) (Value.str (Str.ofString "not_less_witness") 388) (Value.ref 150), DictEntry.mk (PyData.keyHash P (Str.ofString "__static_attributes__")) (Value.str (Str.ofString "__static_attributes__") 394) (Value.ref 151), DictEntry.mk (PyData.keyHash P (Str.ofString "__dict__")) (Value.str (Str.ofString "__dict__") 396) (Value.ref 154), DictEntry.mk (PyData.keyHash P (Str.ofString "__weakref__")) (Value.str (Str.ofString "__weakref__") 398) (Value.ref 155), DictEntry.mk (PyData.keyHash P (Str.ofString "__doc__")) (Value.str (Str.ofString "__doc__") 399) Value.none] 4) #[]) ::
  (nat_lit 153, Obj.mk (Value.type "type") Option.none (Data.cls (ClassData.mk (Str.ofString "Whitespace") [Value.type "object"] [Value.ref 153, Value.type "object"] 152 (Str.ofString "Whitespace") Bool.true [] [] Bool.false Option.none Bool.false)) #[Option.none, Option.none, Option.some (Value.str (Str.ofString "Whitespace") 302), Option.some (Value.str (Str.ofString "Whitespace") 310), Option.some (Value.builtin "object.__new__"), Option.some (Value.bool Bool.true)]) ::
  (nat_lit 154, Obj.mk (Value.type "getset_descriptor") Option.none (Data.fields #[Value.str (Str.ofString "__dict__") 395, Value.ref 153, Value.builtin "function.__dict__", Value.builtin "function.__dict__#set"]) #[]) ::
  (nat_lit 155, Obj.mk (Value.type "getset_descriptor") Option.none (Data.fields #[Value.str (Str.ofString "__weakref__") 397, Value.ref 153, Value.builtin "ExceptionGroup.__weakref__", Value.none]) #[]) ::
  (nat_lit 158, Obj.mk (Value.type "tuple") Option.none (Data.seq #[]) #[]) ::
  (nat_lit 160, Obj.mk (Value.type "tuple") Option.none (Data.seq #[Value.str (Str.ofString "data") 407, Value.str (Str.ofString "width") 408, Value.str (Str.ofString "swapped_data") 409, Value.str (Str.ofString "i") 410, Value.str (Str.ofString "j") 411]) #[]) ::
  (nat_lit 161, Obj.mk (Value.type "tuple") Option.none (Data.seq #[]) #[]) ::
  (nat_lit 163, Obj.mk (Value.type "code") Option.none (Data.fields #[Value.str (Str.ofString "_byteswap") 404, Value.str (Str.ofString "_byteswap") 405, Value.str (Str.ofString "/claim/cut.py") 406, Value.int 105 0, Value.int 2 0, Value.int 0 0, Value.int 0 0, Value.int 3 0, Value.ref 158, Value.bool Bool.true, Value.int 181 0, Value.ref 159, Value.none, Value.ref 160, Value.ref 161, Value.ref 162, Value.int 412 0, Value.int 105 0, Value.str (Str.ofString "/claim/cut.py") 413]) #[]) ::
  (nat_lit 164, Obj.mk (Value.type "function") Option.none (Data.func (FuncData.mk (Str.ofString "_byteswap") (Str.ofString "_byteswap") (fP (stAt 13)) (.stmts (fB (stAt 13))) (fS (stAt 13)) 3 [] Value.none Value.none Value.none (Value.str (Str.ofString "cpy313.wave") 402) Option.none (Value.ref 163) Value.none 0)) #[]) ::
  (nat_lit 165, Obj.mk (Value.type "tuple") Option.none (Data.seq #[]) #[]) ::
  (nat_lit 167, Obj.mk (Value.type "tuple") Option.none (Data.seq #[Value.str (Str.ofString "script") 420, Value.str (Str.ofString "draws") 421, Value.str (Str.ofString "k") 422, Value.str (Str.ofString "number") 423]) #[]) ::
  (nat_lit 168, Obj.mk (Value.type "tuple") Option.none (Data.seq #[]) #[]) ::
  (nat_lit 170, Obj.mk (Value.type "code") Option.none (Data.fields #[Value.str (Str.ofString "_law_draws") 417, Value.str (Str.ofString "_law_draws") 418, Value.str (Str.ofString "/claim/cut.py") 419, Value.int 112 0, Value.int 1 0, Value.int 0 0, Value.int 0 0, Value.int 3 0, Value.ref 165, Value.bool Bool.true, Value.int 181 0, Value.ref 166, Value.none, Value.ref 167, Value.ref 168, Value.ref 169, Value.int 424 0, Value.int 112 0, Value.str (Str.ofString "/claim/cut.py") 425]) #[]) ::
  (nat_lit 171, Obj.mk (Value.type "function") Option.none (Data.func (FuncData.mk (Str.ofString "_law_draws") (Str.ofString "_law_draws") (fP (stAt 15)) (.stmts (fB (stAt 15))) (fS (stAt 15)) 3 [] Value.none Value.none Value.none (Value.str (Str.ofString "law_xp0027_01") 415) Option.none (Value.ref 170) Value.none 0)) #[]) ::
  (nat_lit 172, Obj.mk (Value.type "tuple") Option.none (Data.seq #[]) #[]) ::
  (nat_lit 174, Obj.mk (Value.type "tuple") Option.none (Data.seq #[Value.str (Str.ofString "draw") 430]) #[]) ::
  (nat_lit 175, Obj.mk (Value.type "tuple") Option.none (Data.seq #[]) #[]) ::
  (nat_lit 177, Obj.mk (Value.type "code") Option.none (Data.fields #[Value.str (Str.ofString "_law_lead") 427, Value.str (Str.ofString "_law_lead") 428, Value.str (Str.ofString "/claim/cut.py") 429, Value.int 117 0, Value.int 1 0, Value.int 0 0, Value.int 0 0, Value.int 3 0, Value.ref 172, Value.bool Bool.true, Value.int 181 0, Value.ref 173, Value.none, Value.ref 174, Value.ref 175, Value.ref 176, Value.int 431 0, Value.int 117 0, Value.str (Str.ofString "/claim/cut.py") 432]) #[]) ::
  (nat_lit 178, Obj.mk (Value.type "function") Option.none (Data.func (FuncData.mk (Str.ofString "_law_lead") (Str.ofString "_law_lead") (fP (stAt 16)) (.stmts (fB (stAt 16))) (fS (stAt 16)) 3 [] Value.none Value.none Value.none (Value.str (Str.ofString "law_xp0027_01") 415) Option.none (Value.ref 177) Value.none 0)) #[]) ::
  (nat_lit 179, Obj.mk (Value.type "tuple") Option.none (Data.seq #[]) #[]) ::
  (nat_lit 181, Obj.mk (Value.type "tuple") Option.none (Data.seq #[Value.str (Str.ofString "lead") 437, Value.str (Str.ofString "size") 438, Value.str (Str.ofString "column") 439, Value.str (Str.ofString "sign") 440]) #[]) ::
  (nat_lit 182, Obj.mk (Value.type "tuple") Option.none (Data.seq #[]) #[]) ::
  (nat_lit 184, Obj.mk (Value.type "code") Option.none (Data.fields #[Value.str (Str.ofString "_law_column") 434, Value.str (Str.ofString "_law_column") 435, Value.str (Str.ofString "/claim/cut.py") 436, Value.int 119 0, Value.int 2 0, Value.int 0 0, Value.int 0 0, Value.int 3 0, Value.ref 179, Value.bool Bool.true, Value.int 181 0, Value.ref 180, Value.none, Value.ref 181, Value.ref 182, Value.ref 183, Value.int 441 0, Value.int 119 0, Value.str (Str.ofString "/claim/cut.py") 442]) #[]) ::
  (nat_lit 185, Obj.mk (Value.type "function") Option.none (Data.func (FuncData.mk (Str.ofString "_law_column") (Str.ofString "_law_column") (fP (stAt 17)) (.stmts (fB (stAt 17))) (fS (stAt 17)) 3 [] Value.none Value.none Value.none (Value.str (Str.ofString "law_xp0027_01") 415) Option.none (Value.ref 184) Value.none 0)) #[]) ::
  (nat_lit 186, Obj.mk (Value.type "tuple") Option.none (Data.seq #[]) #[]) ::
  (nat_lit 188, Obj.mk (Value.type "tuple") Option.none (Data.seq #[Value.str (Str.ofString "nannies") 447, Value.str (Str.ofString "walked") 448, Value.str (Str.ofString "one") 449, Value.str (Str.ofString "here") 450, Value.str (Str.ofString "other") 451, Value.str (Str.ofString "there") 452, Value.str (Str.ofString "smaller") 453]) #[]) ::
  (nat_lit 189, Obj.mk (Value.type "tuple") Option.none (Data.seq #[]) #[]) ::
  (nat_lit 191, Obj.mk (Value.type "code") Option.none (Data.fields #[Value.str (Str.ofString "_law_less") 444, Value.str (Str.ofString "_law_less") 445, Value.str (Str.ofString "/claim/cut.py") 446, Value.int 127 0, Value.int 2 0, Value.int 0 0, Value.int 0 0, Value.int 3 0, Value.ref 186, Value.bool Bool.true, Value.int 181 0, Value.ref 187, Value.none, Value.ref 188, Value.ref 189, Value.ref 190, Value.int 454 0, Value.int 127 0, Value.str (Str.ofString "/claim/cut.py") 455]) #[]) ::
  (nat_lit 192, Obj.mk (Value.type "function") Option.none (Data.func (FuncData.mk (Str.ofString "_law_less") (Str.ofString "_law_less") (fP (stAt 18)) (.stmts (fB (stAt 18))) (fS (stAt 18)) 3 [] Value.none Value.none Value.none (Value.str (Str.ofString "law_xp0027_01") 415) Option.none (Value.ref 191) Value.none 0)) #[]) ::
  (nat_lit 193, Obj.mk (Value.type "tuple") Option.none (Data.seq #[]) #[]) ::
  (nat_lit 195, Obj.mk (Value.type "tuple") Option.none (Data.seq #[Value.str (Str.ofString "row") 460, Value.str (Str.ofString "books") 461, Value.str (Str.ofString "k") 462, Value.str (Str.ofString "front") 463, Value.str (Str.ofString "back") 464, Value.str (Str.ofString "gives") 465, Value.str (Str.ofString "takes") 466, Value.str (Str.ofString "more") 467, Value.str (Str.ofString "onwards") 468, Value.str (Str.ofString "fallen") 469]) #[]) ::
  (nat_lit 196, Obj.mk (Value.type "tuple") Option.none (Data.seq #[]) #[]) ::
  (nat_lit 198, Obj.mk (Value.type "code") Option.none (Data.fields #[Value.str (Str.ofString "_law_past") 457, Value.str (Str.ofString "_law_past") 458, Value.str (Str.ofString "/claim/cut.py") 459, Value.int 134 0, Value.int 3 0, Value.int 0 0, Value.int 0 0, Value.int 3 0, Value.ref 193, Value.bool Bool.true, Value.int 181 0, Value.ref 194, Value.none, Value.ref 195, Value.ref 196, Value.ref 197, Value.int 470 0, Value.int 134 0, Value.str (Str.ofString "/claim/cut.py") 471]) #[]) ::
  (nat_lit 199, Obj.mk (Value.type "function") Option.none (Data.func (FuncData.mk (Str.ofString "_law_past") (Str.ofString "_law_past") (fP (stAt 19)) (.stmts (fB (stAt 19))) (fS (stAt 19)) 3 [] Value.none Value.none Value.none (Value.str (Str.ofString "law_xp0027_01") 415) Option.none (Value.ref 198) Value.none 0)) #[]) ::
  (nat_lit 200, Obj.mk (Value.type "tuple") Option.none (Data.seq #[]) #[]) ::
  (nat_lit 202, Obj.mk (Value.type "tuple") Option.none (Data.seq #[Value.str (Str.ofString "state") 476, Value.str (Str.ofString "keys") 477, Value.str (Str.ofString "columns") 478, Value.str (Str.ofString "turns") 479, Value.str (Str.ofString "row") 480, Value.str (Str.ofString "books") 481, Value.str (Str.ofString "order") 482, Value.str (Str.ofString "k") 483]) #[]) ::
  (nat_lit 203, Obj.mk (Value.type "tuple") Option.none (Data.seq #[]) #[]) ::
  (nat_lit 205, Obj.mk (Value.type "code") Option.none (Data.fields #[Value.str (Str.ofString "_law_laid") 473, Value.str (Str.ofString "_law_laid") 474, Value.str (Str.ofString "/claim/cut.py") 475, Value.int 145 0, Value.int 4 0, Value.int 0 0, Value.int 0 0, Value.int 3 0, Value.ref 200, Value.bool Bool.true, Value.int 181 0, Value.ref 201, Value.none, Value.ref 202, Value.ref 203, Value.ref 204, Value.int 484 0, Value.int 145 0, Value.str (Str.ofString "/claim/cut.py") 485]) #[]) ::
  (nat_lit 206, Obj.mk (Value.type "function") Option.none (Data.func (FuncData.mk (Str.ofString "_law_laid") (Str.ofString "_law_laid") (fP (stAt 20)) (.stmts (fB (stAt 20))) (fS (stAt 20)) 3 [] Value.none Value.none Value.none (Value.str (Str.ofString "law_xp0027_01") 415) Option.none (Value.ref 205) Value.none 0)) #[]) ::
  (nat_lit 207, Obj.mk (Value.type "tuple") Option.none (Data.seq #[]) #[]) ::
  (nat_lit 210, Obj.mk (Value.type "code") Option.none (Data.fields #[Value.str (Str.ofString "_law_tolls") 487, Value.str (Str.ofString "_law_tolls") 488, Value.str (Str.ofString "/claim/cut.py") 489, Value.int 152 0, Value.int 2 0, Value.int 0 0, Value.int 0 0, Value.int 3 0, Value.ref 207, Value.bool Bool.true, Value.int 181 0, Value.ref 208, Value.none, Value.none, Value.none, Value.ref 209, Value.int 490 0, Value.int 152 0, Value.str (Str.ofString "/claim/cut.py") 491]) #[]) ::
  (nat_lit 211, Obj.mk (Value.type "function") Option.none (Data.func (FuncData.mk (Str.ofString "_law_tolls") (Str.ofString "_law_tolls") (fP (stAt 21)) (.stmts (fB (stAt 21))) (fS (stAt 21)) 3 [] Value.none Value.none Value.none (Value.str (Str.ofString "law_xp0027_01") 415) Option.none (Value.ref 210) Value.none 0)) #[]) ::
  (nat_lit 212, Obj.mk (Value.type "tuple") Option.none (Data.seq #[]) #[]) ::
  (nat_lit 214, Obj.mk (Value.type "tuple") Option.none (Data.seq #[Value.str (Str.ofString "start") 496, Value.str (Str.ofString "name") 497]) #[]) ::
  (nat_lit 215, Obj.mk (Value.type "tuple") Option.none (Data.seq #[]) #[]) ::
  (nat_lit 217, Obj.mk (Value.type "code") Option.none (Data.fields #[Value.str (Str.ofString "_law_room") 493, Value.str (Str.ofString "_law_room") 494, Value.str (Str.ofString "/claim/cut.py") 495, Value.int 158 0, Value.int 2 0, Value.int 0 0, Value.int 0 0, Value.int 3 0, Value.ref 212, Value.bool Bool.true, Value.int 181 0, Value.ref 213, Value.none, Value.ref 214, Value.ref 215, Value.ref 216, Value.int 498 0, Value.int 158 0, Value.str (Str.ofString "/claim/cut.py") 499]) #[]) ::
  (nat_lit 218, Obj.mk (Value.type "function") Option.none (Data.func (FuncData.mk (Str.ofString "_law_room") (Str.ofString "_law_room") (fP (stAt 22)) (.stmts (fB (stAt 22))) (fS (stAt 22)) 3 [] Value.none Value.none Value.none (Value.str (Str.ofString "law_xp0027_01") 415) Option.none (Value.ref 217) Value.none 0)) #[]) ::
  (nat_lit 219, Obj.mk (Value.type "tuple") Option.none (Data.seq #[]) #[]) ::
  (nat_lit 222, Obj.mk (Value.type "code") Option.none (Data.fields #[Value.str (Str.ofString "_law_across") 501, Value.str (Str.ofString "_law_across") 502, Value.str (Str.ofString "/claim/cut.py") 503, Value.int 160 0, Value.int 3 0, Value.int 0 0, Value.int 0 0, Value.int 3 0, Value.ref 219, Value.bool Bool.true, Value.int 181 0, Value.ref 220, Value.none, Value.none, Value.none, Value.ref 221, Value.int 504 0, Value.int 160 0, Value.str (Str.ofString "/claim/cut.py") 505]) #[]) ::
  (nat_lit 223, Obj.mk (Value.type "function") Option.none (Data.func (FuncData.mk (Str.ofString "_law_across") (Str.ofString "_law_across") (fP (stAt 23)) (.stmts (fB (stAt 23))) (fS (stAt 23)) 3 [] Value.none Value.none Value.none (Value.str (Str.ofString "law_xp0027_01") 415) Option.none (Value.ref 222) Value.none 0)) #[]) ::
  (nat_lit 224, Obj.mk (Value.type "tuple") Option.none (Data.seq #[]) #[]) ::
  (nat_lit 227, Obj.mk (Value.type "code") Option.none (Data.fields #[Value.str (Str.ofString "_law_names") 507, Value.str (Str.ofString "_law_names") 508, Value.str (Str.ofString "/claim/cut.py") 509, Value.int 162 0, Value.int 1 0, Value.int 0 0, Value.int 0 0, Value.int 3 0, Value.ref 224, Value.bool Bool.true, Value.int 181 0, Value.ref 225, Value.none, Value.none, Value.none, Value.ref 226, Value.int 510 0, Value.int 162 0, Value.str (Str.ofString "/claim/cut.py") 511]) #[]) ::
  (nat_lit 228, Obj.mk (Value.type "function") Option.none (Data.func (FuncData.mk (Str.ofString "_law_names") (Str.ofString "_law_names") (fP (stAt 24)) (.stmts (fB (stAt 24))) (fS (stAt 24)) 3 [] Value.none Value.none Value.none (Value.str (Str.ofString "law_xp0027_01") 415) Option.none (Value.ref 227) Value.none 0)) #[]) ::
  (nat_lit 229, Obj.mk (Value.type "tuple") Option.none (Data.seq #[]) #[]) ::
  (nat_lit 232, Obj.mk (Value.type "code") Option.none (Data.fields #[Value.str (Str.ofString "_law_fits") 513, Value.str (Str.ofString "_law_fits") 514, Value.str (Str.ofString "/claim/cut.py") 515, Value.int 164 0, Value.int 3 0, Value.int 0 0, Value.int 0 0, Value.int 3 0, Value.ref 229, Value.bool Bool.true, Value.int 181 0, Value.ref 230, Value.none, Value.none, Value.none, Value.ref 231, Value.int 516 0, Value.int 164 0, Value.str (Str.ofString "/claim/cut.py") 517]) #[]) ::
  (nat_lit 233, Obj.mk (Value.type "function") Option.none (Data.func (FuncData.mk (Str.ofString "_law_fits") (Str.ofString "_law_fits") (fP (stAt 25)) (.stmts (fB (stAt 25))) (fS (stAt 25)) 3 [] Value.none Value.none Value.none (Value.str (Str.ofString "law_xp0027_01") 415) Option.none (Value.ref 232) Value.none 0)) #[]) ::
  (nat_lit 234, Obj.mk (Value.type "tuple") Option.none (Data.seq #[]) #[]) ::
  (nat_lit 236, Obj.mk (Value.type "tuple") Option.none (Data.seq #[Value.str (Str.ofString "rising") 522, Value.str (Str.ofString "falling") 523, Value.str (Str.ofString "start") 524, Value.str (Str.ofString "tolls") 525, Value.str (Str.ofString "earlier") 526, Value.str (Str.ofString "later") 527, Value.str (Str.ofString "name") 528, Value.str (Str.ofString "room") 529, Value.str (Str.ofString "gave") 530, Value.str (Str.ofString "took") 531]) #[]) ::
  (nat_lit 237, Obj.mk (Value.type "tuple") Option.none (Data.seq #[]) #[]) ::
  (nat_lit 239, Obj.mk (Value.type "code") Option.none (Data.fields #[Value.str (Str.ofString "_law_crossed") 519, Value.str (Str.ofString "_law_crossed") 520, Value.str (Str.ofString "/claim/cut.py") 521, Value.int 183 0, Value.int 4 0, Value.int 0 0, Value.int 0 0, Value.int 3 0, Value.ref 234, Value.bool Bool.true, Value.int 181 0, Value.ref 235, Value.none, Value.ref 236, Value.ref 237, Value.ref 238, Value.int 532 0, Value.int 183 0, Value.str (Str.ofString "/claim/cut.py") 533]) #[]) ::
  (nat_lit 240, Obj.mk (Value.type "function") Option.none (Data.func (FuncData.mk (Str.ofString "_law_crossed") (Str.ofString "_law_crossed") (fP (stAt 26)) (.stmts (fB (stAt 26))) (fS (stAt 26)) 3 [] Value.none Value.none Value.none (Value.str (Str.ofString "law_xp0027_01") 415) Option.none (Value.ref 239) Value.none 0)) #[]) ::
  (nat_lit 241, Obj.mk (Value.type "tuple") Option.none (Data.seq #[]) #[]) ::
  (nat_lit 243, Obj.mk (Value.type "tuple") Option.none (Data.seq #[Value.str (Str.ofString "walked") 538, Value.str (Str.ofString "size") 539]) #[]) ::
  (nat_lit 244, Obj.mk (Value.type "tuple") Option.none (Data.seq #[Value.str (Str.ofString "walked") 540, Value.str (Str.ofString "size") 541]) #[]) ::
  (nat_lit 246, Obj.mk (Value.type "code") Option.none (Data.fields #[Value.str (Str.ofString "_law_order") 535, Value.str (Str.ofString "_law_order") 536, Value.str (Str.ofString "/claim/cut.py") 537, Value.int 192 0, Value.int 2 0, Value.int 0 0, Value.int 0 0, Value.int 3 0, Value.ref 241, Value.bool Bool.true, Value.int 181 0, Value.ref 242, Value.none, Value.ref 243, Value.ref 244, Value.ref 245, Value.int 542 0, Value.int 192 0, Value.str (Str.ofString "/claim/cut.py") 543]) #[]) ::
  (nat_lit 247, Obj.mk (Value.type "function") Option.none (Data.func (FuncData.mk (Str.ofString "_law_order") (Str.ofString "_law_order") (fP (stAt 27)) (.stmts (fB (stAt 27))) (fS (stAt 27)) 3 [] Value.none Value.none Value.none (Value.str (Str.ofString "law_xp0027_01") 415) Option.none (Value.ref 246) Value.none 0)) #[]) ::
  (nat_lit 248, Obj.mk (Value.type "tuple") Option.none (Data.seq #[]) #[]) ::
  (nat_lit 251, Obj.mk (Value.type "code") Option.none (Data.fields #[Value.str (Str.ofString "law") 545, Value.str (Str.ofString "law") 546, Value.str (Str.ofString "/claim/cut.py") 547, Value.int 194 0, Value.int 1 0, Value.int 0 0, Value.int 0 0, Value.int 3 0, Value.ref 248, Value.bool Bool.true, Value.int 181 0, Value.ref 249, Value.none, Value.none, Value.none, Value.ref 250, Value.int 548 0, Value.int 194 0, Value.str (Str.ofString "/claim/cut.py") 549]) #[]) ::
  (nat_lit 252, Obj.mk (Value.type "function") Option.none (Data.func (FuncData.mk (Str.ofString "law") (Str.ofString "law") (fP (stAt 28)) (.stmts (fB (stAt 28))) (fS (stAt 28)) 3 [] Value.none Value.none Value.none (Value.str (Str.ofString "law_xp0027_01") 415) Option.none (Value.ref 251) Value.none 0)) #[]) :: []
noncomputable abbrev as9 : List Addr := nat_lit 2 :: nat_lit 3 :: nat_lit 15 :: nat_lit 17 :: nat_lit 18 :: nat_lit 20 :: nat_lit 21 :: nat_lit 22 :: nat_lit 24 :: nat_lit 25 :: nat_lit 27 :: nat_lit 28 :: nat_lit 29 :: nat_lit 31 :: nat_lit 32 :: nat_lit 34 :: nat_lit 35 :: nat_lit 36 :: nat_lit 38 :: nat_lit 39 :: nat_lit 41 :: nat_lit 42 :: nat_lit 43 :: nat_lit 45 :: nat_lit 46 :: nat_lit 48 :: nat_lit 49 :: nat_lit 57 :: nat_lit 59 :: nat_lit 60 :: nat_lit 62 :: nat_lit 63 :: nat_lit 64 :: nat_lit 66 :: nat_lit 67 :: nat_lit 69 :: nat_lit 70 :: nat_lit 71 :: nat_lit 72 :: nat_lit 73 :: nat_lit 74 :: nat_lit 75 :: nat_lit 78 :: nat_lit 80 :: nat_lit 81 :: nat_lit 83 :: nat_lit 84 :: nat_lit 85 :: nat_lit 87 :: nat_lit 88 :: nat_lit 90 :: nat_lit 91 :: nat_lit 102 :: nat_lit 104 :: nat_lit 105 :: nat_lit 107 :: nat_lit 108 :: nat_lit 109 :: nat_lit 111 :: nat_lit 112 :: nat_lit 114 :: nat_lit 115 :: nat_lit 116 :: nat_lit 118 :: nat_lit 119 :: nat_lit 121 :: nat_lit 122 :: nat_lit 123 :: nat_lit 125 :: nat_lit 126 :: nat_lit 128 :: nat_lit 129 :: nat_lit 130 :: nat_lit 132 :: nat_lit 133 :: nat_lit 135 :: nat_lit 136 :: nat_lit 137 :: nat_lit 139 :: nat_lit 140 :: nat_lit 142 :: nat_lit 143 :: nat_lit 144 :: nat_lit 146 :: nat_lit 147 :: nat_lit 149 :: nat_lit 150 :: nat_lit 151 :: nat_lit 152 :: nat_lit 153 :: nat_lit 154 :: nat_lit 155 :: nat_lit 158 :: nat_lit 160 :: nat_lit 161 :: nat_lit 163 :: nat_lit 164 :: nat_lit 165 :: nat_lit 167 :: nat_lit 168 :: nat_lit 170 :: nat_lit 171 :: nat_lit 172 :: nat_lit 174 :: nat_lit 175 :: nat_lit 177 :: nat_lit 178 :: nat_lit 179 :: nat_lit 181 :: nat_lit 182 :: nat_lit 184 :: nat_lit 185 :: nat_lit 186 :: nat_lit 188 :: nat_lit 189 :: nat_lit 191 :: nat_lit 192 :: nat_lit 193 :: nat_lit 195 :: nat_lit 196 :: nat_lit 198 :: nat_lit 199 :: nat_lit 200 :: nat_lit 202 :: nat_lit 203 :: nat_lit 205 :: nat_lit 206 :: nat_lit 207 :: nat_lit 210 :: nat_lit 211 :: nat_lit 212 :: nat_lit 214 :: nat_lit 215 :: nat_lit 217 :: nat_lit 218 :: nat_lit 219 :: nat_lit 222 :: nat_lit 223 :: nat_lit 224 :: nat_lit 227 :: nat_lit 228 :: nat_lit 229 :: nat_lit 232 :: nat_lit 233 :: nat_lit 234 :: nat_lit 236 :: nat_lit 237 :: nat_lit 239 :: nat_lit 240 :: nat_lit 241 :: nat_lit 243 :: nat_lit 244 :: nat_lit 246 :: nat_lit 247 :: nat_lit 248 :: nat_lit 251 :: nat_lit 252 :: []
noncomputable def q9 : Program := { PW with main := { PW.main with body := [stAt 0, stAt 2, stAt 3, stAt 4, stAt 5, stAt 7, stAt 8, stAt 9, stAt 11, stAt 13, stAt 15, stAt 16, stAt 17, stAt 18, stAt 19, stAt 20, stAt 21, stAt 22, stAt 23, stAt 24, stAt 25, stAt 26, stAt 27, stAt 28] } }
theorem as9_eq (P : Params) : as9 = (K9 P).map (·.1) := by kernel_rfl
noncomputable def H9 : Hook := kmHook K9 as9 as9_eq [242]
noncomputable abbrev R9 : RowW := PySem.Challenge.rw_xp0027_01.row.toRowW
noncomputable abbrev X9 : Shared → Bool := fun s => xlAt q9 [] s && recOk (RowW.records R9) s
theorem left_f (w : World) : (openEnds treeTable R9.prog (w.withFollow "special-get-raises" false) 3090).map (fun s => (openSeen q9 [Str.ofString "Whitespace"] (importedModules R9.prog.main.body) X9 true s, Hook.obs H9 s)) = some (openGood q9 [Str.ofString "Whitespace"], Hook.val H9 (w.withFollow "special-get-raises" false)) := by
  unfold PySem.W.openEnds PySem.W.fencedOpening PySem.W.topFrom
  try rw [PySem.W.Fast.te14082659384304107361, PySem.W.Fast.te4187177175401517315, PySem.W.Fast.te14364793385576792824, PySem.W.Fast.te10274390034422433532, PySem.W.Fast.te14289696077712309145]
  kernel_rfl
theorem left_t (w : World) : (openEnds treeTable R9.prog (w.withFollow "special-get-raises" true) 3090).map (fun s => (openSeen q9 [Str.ofString "Whitespace"] (importedModules R9.prog.main.body) X9 true s, Hook.obs H9 s)) = some (openGood q9 [Str.ofString "Whitespace"], Hook.val H9 (w.withFollow "special-get-raises" true)) := by
  unfold PySem.W.openEnds PySem.W.fencedOpening PySem.W.topFrom
  try rw [PySem.W.Fast.te14082659384304107361, PySem.W.Fast.te4187177175401517315, PySem.W.Fast.te14364793385576792824, PySem.W.Fast.te10274390034422433532, PySem.W.Fast.te14289696077712309145]
  kernel_rfl
theorem left9 : LeftO R9.prog q9 [Str.ofString "Whitespace"] X9 (Hook.obs H9) (Hook.val H9) 3090 :=
  byRow2 "special-get-raises" (P := fun w => (openEnds treeTable R9.prog w 3090).map (fun s => (openSeen q9 [Str.ofString "Whitespace"] (importedModules R9.prog.main.body) X9 true s, Hook.obs H9 s)) = some (openGood q9 [Str.ofString "Whitespace"], Hook.val H9 w)) left_f left_t
end
section
open PySem PySem.W PyProof.Rows PySem.Spec PySem.Calls
set_option maxRecDepth 100000
set_option maxHeartbeats 8000000
noncomputable abbrev Led := List (Addr × Obj)

noncomputable abbrev PP : Program := PySem.Challenge.rw_xp0027_01.row.prog
noncomputable abbrev tupObj (vs : Array Value) : Obj := { cls := .type "tuple", data := .seq vs }

theorem all_cons {α : Type} {p : α → Prop} {a : α} {l : List α} (h : p a) (t : ∀ x ∈ l, p x) : ∀ x ∈ a :: l, p x := List.forall_mem_cons.mpr ⟨h, t⟩
theorem all_nil {α : Type} {p : α → Prop} : ∀ x ∈ ([] : List α), p x := List.forall_mem_nil p
structure Apt (a b : Addr) : Prop where
  ne : @Ne Nat a b
theorem Apt.symm {a b : Addr} (h : Apt a b) : @Ne Nat b a := fun e => h.ne e.symm
structure AptL (x : Addr) (l : Led) : Prop where
  get : ∀ q ∈ l, @Ne Nat q.1 x
theorem AptL.ne {x y : Addr} {o : Obj} {l : Led} (h : AptL x l) (m : (y, o) ∈ l) : @Ne Nat y x := h.get _ m
theorem AptL.ne' {x y : Addr} {o : Obj} {l : Led} (h : AptL x l) (m : (y, o) ∈ l) : @Ne Nat x y := fun e => h.get _ m e.symm

theorem off1_aptl {D : Addr} : ∀ {l : Led}, LCg.Off1 D l → AptL D l
  | [], _ => ⟨fun _ h => absurd h (List.not_mem_nil)⟩
  | p :: r, h => ⟨fun q hq => by
    rcases List.mem_cons.mp hq with rfl | hq
    · exact h.1
    · exact (off1_aptl h.2).get q hq⟩
theorem aptl_of_lt {d : Addr} {l : Led} (h : ∀ p ∈ l, p.1 < d) : AptL d l := ⟨fun q hq => Nat.ne_of_lt (h q hq)⟩
theorem fmod2 (n : Int) : 0 ≤ Int.fmod n 2 ∧ Int.fmod n 2 < 2 := ⟨Int.fmod_nonneg_of_pos n (by decide), Int.fmod_lt_of_pos n (by decide)⟩
theorem sel_at (n : Int) (t : Th) (a b c : Tok) : [Value.int t.nm a, .int t.l b, .int t.r c][(1 + Int.fmod n 2).toNat]? = some (.int (sel n t) (if Int.fmod n 2 = 0 then b else c)) := by
  have h := fmod2 n
  unfold sel
  have h2 : Int.fmod n 2 = 0 ∨ Int.fmod n 2 = 1 := by omega
  rcases h2 with e | e <;> rw [e] <;> rfl
theorem getD_sel (n : Int) (t : Th) : [t.nm, t.l, t.r].getD (1 + Int.fmod n 2).toNat 0 = sel n t := by
  have h := fmod2 n
  unfold sel
  have h2 : Int.fmod n 2 = 0 ∨ Int.fmod n 2 = 1 := by omega
  rcases h2 with e | e <;> rw [e] <;> rfl
theorem range_map_getD (f : Nat → Int) {n i : Nat} (h : i < n) : ((List.range n).map f).getD i 0 = f i := by
  simp [List.getD_eq_getElem?_getD, h]
theorem all_ne_lt {R : Led} {d L : Addr} (h : ∀ p ∈ R, p.1 < L) (e : @LE.le Nat _ L d) : ∀ p ∈ R, p.1 ≠ d := fun p hp q => by
  have h1 : @LT.lt Nat _ p.1 L := h p hp
  have h2 : @LE.le Nat _ L d := e
  have h3 : @Eq Nat p.1 d := q
  omega
theorem aptl_nil {l : Led} (_ : ∀ p ∈ ([] : Led), AptL p.1 l) : True := trivial
theorem aptl_head {x : Addr × Obj} {r l : Led} (h : ∀ p ∈ x :: r, AptL p.1 l) : AptL x.1 l := h x (List.Mem.head _)
theorem aptl_tail {x : Addr × Obj} {r l : Led} (h : ∀ p ∈ x :: r, AptL p.1 l) : ∀ p ∈ r, AptL p.1 l := fun p hp => h p (List.Mem.tail _ hp)
theorem mem_of {a : Addr × Obj} {l : Led} (h : a ∈ l) : List.Mem a l := h
theorem news_sub {h₀ h : Heap} {L : Addr} {A news : Led} (N : News h₀ L h news) (hA : ∀ p ∈ A, p ∈ news) : News h₀ L h A := fun p hp => N p (hA p hp)

inductive PInt (x : Int) : Value → Led → Prop
  | mk (t : Tok) : PInt x (.int x t) []
inductive PBool (b : Bool) : Value → Led → Prop
  | mk : PBool b (.bool b) []
inductive PStr (x : Str) : Value → Led → Prop
  | mk (t : Tok) : PStr x (.str x t) []
inductive PInts (T : List Int) : Value → Led → Prop
  | mk (l : Addr) (vs : List Value) (n : Nat) (h : IntsAre vs T) : PInts T (.ref l) [(l, listOf (List.toArray vs) n)]
theorem PInt.of {x y : Int} {t : Tok} (e : y = x) : PInt x (.int y t) [] := e ▸ .mk t
theorem PBool.of {x y : Bool} (e : y = x) : PBool x (.bool y) [] := e ▸ .mk
theorem PInt.el {x : Int} (K : Value → Prop) (k : ∀ t, K (.int x t)) (r : Value) (A : Led) (h : PInt x r A) : K r ∧ A = [] := by cases h; exact ⟨k _, rfl⟩
theorem PBool.el {b : Bool} (K : Value → Prop) (k : K (.bool b)) (r : Value) (A : Led) (h : PBool b r A) : K r ∧ A = [] := by cases h; exact ⟨k, rfl⟩
theorem PStr.el {x : Str} (K : Value → Prop) (k : ∀ t, K (.str x t)) (r : Value) (A : Led) (h : PStr x r A) : K r ∧ A = [] := by cases h; exact ⟨k _, rfl⟩
theorem PInts.el {T : List Int} (K : Value → Led → Prop) (k : ∀ l vs n, IntsAre vs T → K (.ref l) [(l, listOf (List.toArray vs) n)]) (r : Value) (A : Led) (h : PInts T r A) : K r A := by cases h; exact k _ _ _ (by assumption)
noncomputable def Con (w : World) (d : Nat) (f : Addr) (vs : List Value) (M I : Led) (P : Value → Led → Prop) : Prop :=
  ∀ (rest : Led) (loose : List Str) (mean : ExcName → Option Value) (mg mb : Str → Option Value) (dp un : Nat) (gd : Option (List Code)) (cn : Str) (cs : Scope) (a : Addr) (ccd : Value) (cl : List (Str × Addr)) (outer : List Env) (A₀ : Around) (base h₀ : Heap) (L : Addr) (m : Str → Option Value) (s : Shared) (Q E : Value → Shared → Prop),
    Below A₀ base outer h₀ → Fr h₀ L s.heap m → (K9 w.params).In h₀ → News h₀ L s.heap (M ++ rest) → (∀ p ∈ I, p ∈ rest) → (∀ p ∈ M, ∀ q ∈ rest, q.1 ≠ p.1) → Top topProg loose mean mg mb h₀ → cs.kind = .function → dp + d < recursionLimit → un + 12 * d < cLine →
    (∀ r A' h' tk', Fr h₀ L h' m → News h₀ L h' (A' ++ rest) → (∀ p ∈ A', AptL p.1 rest) → P r A' → Q r { s with heap := h', toks := tk' }) →
    wpAny (model PP w) (ktrTop dp un gd cn cs L a ccd cl outer) (call (.ref f) vs) Q E s

theorem ite_bne {a b : Int} {p q : Prop} (h : a = b) (hq : q) : if (a != b) = true then p else q := by
  subst h
  simpa using hq
theorem con_mono {w : World} {d : Nat} {f : Addr} {vs : List Value} {M I I' : Led} {P : Value → Led → Prop} (h : Con w d f vs M I P) (hs : ∀ p ∈ I, p ∈ I') : Con w d f vs M I' P := by
  intro rest loose mean mg mb dp un gd cn cs a ccd cl outer A₀ base h₀ L m s Q E B F X N hI hM T hk hd hu ret
  exact h rest loose mean mg mb dp un gd cn cs a ccd cl outer A₀ base h₀ L m s Q E B F X N (fun p hp => hI p (hs p hp)) hM T hk hd hu ret
theorem con_post {w : World} {d : Nat} {f : Addr} {vs : List Value} {M I : Led} {P P' : Value → Led → Prop} (h : Con w d f vs M I P) (hs : ∀ r A, P r A → P' r A) : Con w d f vs M I P' := by
  intro rest loose mean mg mb dp un gd cn cs a ccd cl outer A₀ base h₀ L m s Q E B F X N hI hM T hk hd hu ret
  exact h rest loose mean mg mb dp un gd cn cs a ccd cl outer A₀ base h₀ L m s Q E B F X N hI hM T hk hd hu fun r A' h' tk' F' N' Z p => ret r A' h' tk' F' N' Z (hs r A' p)
theorem con_gen {w : World} {d : Nat} {f : Addr} {vs : List Value} {M I : Led} {P : Value → Led → Prop} (h : ∀ P' : Value → Led → Prop, (∀ r A, P r A → P' r A) → Con w d f vs M I P') : Con w d f vs M I P := h P fun _ _ x => x
theorem fd_lit {name qual : Str} {p' p : Arguments} {b' b : List Stmt} {c' c : Scope} {dV kV doc pm cdv ct : Value} {an : Option Addr} (h1 : p' = p) (h2 : b' = b) (h3 : c' = c) : fnOf name qual p' b' c' dV kV doc pm an cdv ct = fnOf name qual p b c dV kV doc pm an cdv ct := by rw [h1, h2, h3]
noncomputable def Ret (g : Heap) (s₀ : Shared) (I : Led) (P : Value → Led → Prop) (v : Value) (s' : Shared) : Prop :=
  ∃ L' m' A' h' tk', s' = { s₀ with heap := h', toks := tk' } ∧ Fr g L' h' m' ∧ News g L' h' A' ∧ News g L' h' I ∧ (∀ p ∈ A', ∀ q ∈ I, @Ne Nat q.1 p.1) ∧ P v A'

theorem retN {g h' : Heap} {L : Addr} {m' : Str → Option Value} {s₀ : Shared} {I news : Led} {P : Value → Led → Prop} {v : Value} {tk : Nat} {Q₀ : Flow → Shared → Prop} (hq : ∀ v s', Ret g s₀ I P v s' → Q₀ (.ret v) s') (A : Led) (F : Fr g L h' m') (N : News g L h' news) (hA : ∀ p ∈ A, p ∈ news) (hI : ∀ p ∈ I, p ∈ news) (ha : ∀ p ∈ A, ∀ q ∈ I, @Ne Nat q.1 p.1) (hP : P v A) : Q₀ (.ret v) { s₀ with heap := h', toks := tk } :=
  hq _ _ ⟨L, m', A, h', tk, rfl, F, fun p hp => N p (hA p hp), fun p hp => N p (hI p hp), ha, hP⟩
theorem retV {g h' : Heap} {L : Addr} {m' : Str → Option Value} {s₀ : Shared} {I news : Led} {P : Value → Led → Prop} {tk : Nat} {Q₀ : Flow → Shared → Prop} (hq : ∀ s', Ret g s₀ I P .none s' → Q₀ .next s') (A : Led) (F : Fr g L h' m') (N : News g L h' news) (hA : ∀ p ∈ A, p ∈ news) (hI : ∀ p ∈ I, p ∈ news) (ha : ∀ p ∈ A, ∀ q ∈ I, @Ne Nat q.1 p.1) (hP : P .none A) : Q₀ .next { s₀ with heap := h', toks := tk } :=
  hq _ ⟨L, m', A, h', tk, rfl, F, fun p hp => N p (hA p hp), fun p hp => N p (hI p hp), ha, hP⟩
theorem hide_goal {G : Prop} (h : ∀ X : Prop, (G → X) → X) : G := h G id
theorem hideQ {M : Model} {A : Around} {E : Value → Shared → Prop} {s : Shared} {env env' : Env} {e : PySem.Expr} {x : Str} {Q : Unit → Shared → Prop} (h : ∀ Q₁ : Value → Shared → Prop, (∀ v s, wpAny M A (storeName env' x v) Q E s → Q₁ v s) → wpAny M A (eval e env) Q₁ E s) :
    wpAny M A (eval e env) (fun v s => wpAny M A (storeName env' x v) Q E s) E s := h _ fun _ _ x => x
theorem hideQ2 {M : Model} {A : Around} {E : Value → Shared → Prop} {s : Shared} {env env' : Env} {e t : PySem.Expr} {Q : Unit → Shared → Prop} (h : ∀ Q₁ : Value → Shared → Prop, (∀ v s, wpAny M A (assign t env' v) Q E s → Q₁ v s) → wpAny M A (eval e env) Q₁ E s) :
    wpAny M A (eval e env) (fun v s => wpAny M A (assign t env' v) Q E s) E s := h _ fun _ _ x => x
theorem letAE {M : Model} {A : Around} {E : Value → Shared → Prop} {s : Shared} {env : Env} {body : List Stmt} {Q : Flow → Shared → Prop} (h : let A' := A; let env' := env; wpAny M A' (execs body env') Q E s) : wpAny M A (execs body env) Q E s := h
theorem ret0 {g h' : Heap} {L : Addr} {m' : Str → Option Value} {s₀ : Shared} {I news : Led} {P : Value → Led → Prop} {v : Value} {tk : Nat} {Q₀ : Flow → Shared → Prop} (hq : ∀ v s', Ret g s₀ I P v s' → Q₀ (.ret v) s') (F : Fr g L h' m') (N : News g L h' news) (hI : ∀ p ∈ I, p ∈ news) (hP : P v []) : Q₀ (.ret v) { s₀ with heap := h', toks := tk } :=
  hq _ _ ⟨L, m', [], h', tk, rfl, F, fun p h => absurd h (List.not_mem_nil), fun p hp => N p (hI p hp), fun p h => absurd h (List.not_mem_nil), hP⟩
theorem ret1 {g h' : Heap} {L l : Addr} {o : Obj} {m' : Str → Option Value} {s₀ : Shared} {I news : Led} {P : Value → Led → Prop} {v : Value} {tk : Nat} {Q₀ : Flow → Shared → Prop} (hq : ∀ v s', Ret g s₀ I P v s' → Q₀ (.ret v) s') (F : Fr g L h' m') (N : News g L h' news) (hI : ∀ p ∈ I, p ∈ news) (hm : (l, o) ∈ news) (ha : ∀ q ∈ I, @Ne Nat q.1 l) (hP : P v [(l, o)]) : Q₀ (.ret v) { s₀ with heap := h', toks := tk } :=
  hq _ _ ⟨L, m', [(l, o)], h', tk, rfl, F, fun p h => by rw [List.mem_singleton.mp h]; exact N _ hm, fun p hp => N p (hI p hp), fun p h => by rw [List.mem_singleton.mp h]; exact ha, hP⟩
theorem hide_facts {s : Shared} {h₀ : Heap} {L : Addr} {m : Str → Option Value} {M I rest : Led} {Ar A₀ : Around} {base : Heap} {outer : List Env} {env : Env}
    (B : Below A₀ base outer h₀) (F : Fr h₀ L s.heap m) (N : News h₀ L s.heap (M ++ rest)) (hI : ∀ p ∈ I, p ∈ rest) (hM : ∀ p ∈ M, ∀ q ∈ rest, q.1 ≠ p.1) (hA : Ar.frames = some (env :: outer)) (hf : env.frame = some L) (hke : env.scope.kind = .function)
    {P : Value → Led → Prop} {Q : Value → Shared → Prop} (ret : ∀ r A' h' tk', Fr h₀ L h' m → News h₀ L h' (A' ++ rest) → (∀ p ∈ A', AptL p.1 rest) → P r A' → Q r { s with heap := h', toks := tk' }) :
    News h₀ L s.heap (M ++ I) ∧ Below Ar base (env :: outer) (hideAll s.heap ((M ++ I).map (·.1))) ∧ h₀.StaysIn (hideAll s.heap ((M ++ I).map (·.1))) ∧
      ∀ v s', Ret (hideAll s.heap ((M ++ I).map (·.1))) s I P v s' → Q v s' := by
  have NI : News h₀ L s.heap (M ++ I) := fun p hp => by
    rcases List.mem_append.mp hp with q | q
    · exact N p (List.mem_append_left _ q)
    · exact N p (List.mem_append_right _ (hI p q))
  obtain ⟨FG, BG, st, lv⟩ := groundX (A := Ar) (R := fun r s' => match r with | .ok (.ret v) => Q v s' | _ => False) B F NI hA hf hke
  refine ⟨NI, BG, st, fun v s' hr => ?_⟩
  obtain ⟨L', m', A', h', tk', rfl, F', N', NI', hZ, hP⟩ := hr
  refine lv v _ ⟨L', m', A', F', N', fun F₂ N₂ => ret v A' h' tk' F₂ (fun p hp => ?_) (fun p hp => ⟨fun q hq e => ?_⟩) hP⟩
  rotate_left
  · have NR := (N q (List.mem_append_right _ hq)).1
    have NP := (N' p hp).2.2
    by_cases hm : q.1 ∈ (M ++ I).map (·.1)
    · obtain ⟨z, hz, e'⟩ := List.mem_map.mp hm
      rcases List.mem_append.mp hz with y | y
      · exact hM z y q hq e'.symm
      · exact hZ p hp z y (e'.trans e)
    · have := hideAll_get _ NR hm
      have e'' : q.1 = p.1 := e
      rw [e'', NP] at this
      cases this
  rcases List.mem_append.mp hp with q | q
  · exact N₂ p q
  have NR := N p (List.mem_append_right _ q)
  refine ⟨?_, NR.2⟩
  by_cases hm : p.1 ∈ (M ++ I).map (·.1)
  · obtain ⟨z, hz, e⟩ := List.mem_map.mp hm
    rcases List.mem_append.mp hz with y | y
    · exact absurd e.symm (hM z y p q)
    · have hz₂ := (NI z hz).1
      rw [e, NR.1] at hz₂
      have := (NI' z y).1
      rw [e, ← Option.some.inj hz₂] at this
      exact this
  · exact F'.keep _ _ (hideAll_get _ NR.1 hm)

section
variable {w : World} {d : Nat} {f : Addr} {vs : List Value} {M I : Led} {P : Value → Led → Prop} {name qual : Str} {params : Arguments} {body : List Stmt} {scope : Scope} {dV kV doc pm cdv ct oc : Value} {an od : Option Addr} {osl : Array (Option Value)} {binds : List (Str × Value)} {fd : FuncData}

theorem con_plain (ho : (K9 w.params).lookup f = some ⟨oc, od, .func fd, osl⟩) (hfd : fd = fnOf name qual params body scope dV kV doc pm an cdv ct) (hcd : codeIn (K9 w.params) cdv qual = true)
    (hbind : bindArgs (fnOf name qual params body scope dV kV doc pm an cdv ct) ⟨vs, []⟩ = pure binds) (hloc : ∀ y ∈ binds, scope.names.lookup y.1 = some .local)
    (hco : scope.isCoroutine = false) (hgen : scope.isGenerator = false) (hk : scope.kind = .function) (hcell : ∀ x ∈ scope.names, x.2 ≠ .cell)
    (h : ∀ (loose : List Str) (mean : ExcName → Option Value) (mg mb : Str → Option Value) (dp un : Nat) (gd : Option (List Code)) (outer : List Env) (A₀ : Around) (base g : Heap) (L : Addr) (h₁ : Heap) (s₀ : Shared) (tk : Nat) (Q₀ : Flow → Shared → Prop), (∀ v s', Ret g s₀ I P v s' → Q₀ (.ret v) s') → (∀ s', Ret g s₀ I P .none s' → Q₀ .next s') →
      Below A₀ base outer g → Fr g L h₁ (fun y => binds.reverse.lookup y) → (K9 w.params).In g → News g L h₁ (M ++ I) → Top topProg loose mean mg mb g → dp + d < recursionLimit → un + 12 * d + 9 < cLine →
      wpAny (model PP w) (ktrTop dp un gd qual scope L f cdv [] outer) (execs body (envX qual scope L f cdv [])) Q₀ (fun _ _ => False) { s₀ with heap := h₁, toks := tk }) :
    Con w (d + 1) f vs M I P := by
  subst hfd
  intro rest loose mean mg mb dp un gd cn cs a ccd cl outer A₀ base h₀ L m s Q E B F X N hI hM T hkc hd hu ret
  obtain ⟨NI, BG, st, lv⟩ := hide_facts (Ar := ktrTop dp un gd cn cs L a ccd cl outer) (env := envX cn cs L a ccd cl) B F N hI hM rfl rfl hkc ret
  refine wpAny_call (codeAny_call_def (fd := fnOf name qual params body scope dV kV doc pm an cdv ct) (body := body) (binds := binds) (by show dp < _; omega) ((X.keeps F.keep) _ _ ho) rfl (T.nolimit.keeps F.keep) (codeRec_of (X.keeps F.keep) hcd) rfl (BindsTo.of_eq hbind) hcell hloc (fun h₁ hns hk₁ => ?_) hco hgen hk)
  refine wpAny_mono (h loose mean mg mb (dp + 1) (un + 3) gd (envX cn cs L a ccd cl :: outer) _ base _ s.heap.objs.size h₁ s _ (fun fl s' => Ret _ s I P (match fl with | .ret v => v | _ => .none) s') (fun _ _ x => x) (fun _ x => x) BG ⟨hns, fun b o e => hk₁ b o (of_hideAll _ e), Nat.le_of_eq (hideAll_size _ _)⟩ (X.keeps st) (fun p hp => ⟨hk₁ _ _ (NI p hp).1, Nat.ne_of_lt (Heap.lt_size (NI p hp).1), hideAll_none _ (List.mem_map_of_mem hp)⟩) (T.keeps st) (by omega) (by omega)) (fun fl s' hl => lv _ _ hl) fun _ _ y => y.elim

theorem con_cells (ho : (K9 w.params).lookup f = some ⟨oc, od, .func fd, osl⟩) (hfd : fd = fnOf name qual params body scope dV kV doc pm an cdv ct) (hcd : codeIn (K9 w.params) cdv qual = true)
    (hbind : bindArgs (fnOf name qual params body scope dV kV doc pm an cdv ct) ⟨vs, []⟩ = pure binds) (hkind : (binds.all fun y => scope.names.lookup y.1 == some .local || scope.names.lookup y.1 == some .cell) = true)
    (hco : scope.isCoroutine = false) (hgen : scope.isGenerator = false) (hk : scope.kind = .function) (hnd : ((cellsFrom 0 scope.names []).map (·.1)).Nodup)
    (h : ∀ (loose : List Str) (mean : ExcName → Option Value) (mg mb : Str → Option Value) (dp un : Nat) (gd : Option (List Code)) (outer : List Env) (A₀ : Around) (base g : Heap) (L : Addr) (h₁ : Heap) (s₀ : Shared) (tk : Nat) (cells : Led) (Q₀ : Flow → Shared → Prop), (∀ v s', Ret g s₀ I P v s' → Q₀ (.ret v) s') → (∀ s', Ret g s₀ I P .none s' → Q₀ .next s') →
      Below A₀ base outer g → Fr g L h₁ (bindL (envOfC qual scope L f cdv).kindOf binds fun _ => none) → (K9 w.params).In g → News g L h₁ (cells ++ (M ++ I)) →
      CellsAre (bindC (envOfC qual scope L f cdv).kindOf binds fun _ => none) (cellsFrom (L + 1) scope.names []) cells → (∀ p ∈ M ++ I, p.1 < L) → Top topProg loose mean mg mb g → dp + d < recursionLimit → un + 12 * d + 9 < cLine →
      wpAny (model PP w) (ktrTop dp un gd qual scope L f cdv (cellsFrom (L + 1) scope.names []) outer) (execs body (envX qual scope L f cdv (cellsFrom (L + 1) scope.names []))) Q₀ (fun _ _ => False) { s₀ with heap := h₁, toks := tk }) :
    Con w (d + 1) f vs M I P := by
  subst hfd
  intro rest loose mean mg mb dp un gd cn cs a ccd cl outer A₀ base h₀ L m s Q E B F X N hI hM T hkc hd hu ret
  obtain ⟨NI, BG, st, lv⟩ := hide_facts (Ar := ktrTop dp un gd cn cs L a ccd cl outer) (env := envX cn cs L a ccd cl) B F N hI hM rfl rfl hkc ret
  refine wpAny_call (codeAny_call_function (fd := fnOf name qual params body scope dV kV doc pm an cdv ct) (by show dp < _; omega) ((X.keeps F.keep) _ _ ho) rfl hco hgen rfl (codeRec_of (X.keeps F.keep) hcd) (BindsTo.of_eq hbind _ _ _ _ ?_))
  refine wpAny_newFunctionEnv_cells hk (kindsX hkind _) fun env' he s' x => ?_
  subst he
  refine ⟨(T.nolimit.keeps F.keep).keeps x.toInCall.keep, codeAny_func ?_⟩
  obtain ⟨h₁, tk, rfl, _⟩ := x.done
  have hk₁ := x.toInCall.keep
  obtain ⟨cells, NC, Y⟩ := Cl.news (h₀ := s.heap) (Nat.le_refl _) fun n c hm => ⟨x.cell n c (lookup_of_mem_nodup (cellsFrom_names scope.names 0 (s.heap.objs.size + 1) [] [] rfl ▸ hnd) hm), x.above n c hm⟩
  refine wpAny_mono (h loose mean mg mb (dp + 1) (un + 3) gd (envX cn cs L a ccd cl :: outer) _ base _ s.heap.objs.size h₁ s tk cells (fun fl s' => Ret _ s I P (match fl with | .ret v => v | _ => .none) s') (fun _ _ x => x) (fun _ x => x) BG ⟨x.toInCall.ns, fun b o e => hk₁ b o (of_hideAll _ e), Nat.le_of_eq (hideAll_size _ _)⟩ (X.keeps st) (fun p hp => ?_) Y (fun p hp => Heap.lt_size (NI p hp).1) (T.keeps st) (by omega) (by omega)) (fun fl s' hl => lv _ _ hl) fun _ _ y => y.elim
  rcases List.mem_append.mp hp with hp | hp
  · refine ⟨(NC p hp).1, (NC p hp).2.1, ?_⟩
    cases q : (hideAll s.heap ((M ++ I).map (·.1))).get? p.1 with
    | none => rfl
    | some o => have := of_hideAll _ q; rw [(NC p hp).2.2] at this; cases this
  · exact ⟨hk₁ _ _ (NI p hp).1, Nat.ne_of_lt (Heap.lt_size (NI p hp).1), hideAll_none _ (List.mem_map_of_mem hp)⟩
end

section
variable {w : World} {d : Nat} {f : Addr} {vs : List Value} {M I news rest : Led} {P : Value → Led → Prop} {loose : List Str} {mean : ExcName → Option Value} {mg mb : Str → Option Value} {dp un : Nat} {gd : Option (List Code)} {cn : Str} {cs : Scope} {a : Addr} {ccd : Value} {cl : List (Str × Addr)} {outer : List Env} {A₀ : Around} {base h₀ : Heap} {L : Addr} {m : Str → Option Value} {s : Shared} {Q E : Value → Shared → Prop}
theorem con_use0 {D : (Value → Prop) → Prop} (el : ∀ K : Value → Prop, D K → ∀ r A, P r A → K r ∧ A = []) (C : Con w d f vs [] I P) (B : Below A₀ base outer h₀) (F : Fr h₀ L s.heap m) (X : (K9 w.params).In h₀) (N : News h₀ L s.heap news) (T : Top topProg loose mean mg mb h₀) (hk : cs.kind = .function) (hI : ∀ p ∈ I, p ∈ news) (hd : dp + d < recursionLimit) (hu : un + 12 * d < cLine)
    (ret : D (fun r => ∀ h' tk', Fr h₀ L h' m → News h₀ L h' news → Q r { s with heap := h', toks := tk' })) :
    wpAny (model PP w) (ktrTop dp un gd cn cs L a ccd cl outer) (call (.ref f) vs) Q E s :=
  C _ _ _ _ _ _ _ _ _ _ _ _ _ _ _ _ _ _ _ _ _ _ B F X N hI (fun p h => absurd h (List.not_mem_nil)) T hk hd hu (fun r A' h' tk' F' N' _ p => (el _ ret r A' p).1 h' tk' F' (by rw [(el _ ret r A' p).2] at N'; exact N'))
theorem con_use1 {D : (Value → Led → Prop) → Prop} (el : ∀ K : Value → Led → Prop, D K → ∀ r A, P r A → K r A) (C : Con w d f vs [] I P) (B : Below A₀ base outer h₀) (F : Fr h₀ L s.heap m) (X : (K9 w.params).In h₀) (N : News h₀ L s.heap news) (T : Top topProg loose mean mg mb h₀) (hk : cs.kind = .function) (hI : ∀ p ∈ I, p ∈ news) (hd : dp + d < recursionLimit) (hu : un + 12 * d < cLine)
    (ret : D (fun r A' => ∀ h' tk', Fr h₀ L h' m → News h₀ L h' (A' ++ news) → (∀ p ∈ A', AptL p.1 news) → Q r { s with heap := h', toks := tk' })) :
    wpAny (model PP w) (ktrTop dp un gd cn cs L a ccd cl outer) (call (.ref f) vs) Q E s :=
  C _ _ _ _ _ _ _ _ _ _ _ _ _ _ _ _ _ _ _ _ _ _ B F X N hI (fun p h => absurd h (List.not_mem_nil)) T hk hd hu (fun r A' h' tk' F' N' Z' p => el _ ret r A' p h' tk' F' N' Z')
theorem con_useM {D : (Value → Led → Prop) → Prop} (el : ∀ K : Value → Led → Prop, D K → ∀ r A, P r A → K r A) (C : Con w d f vs M I P) (B : Below A₀ base outer h₀) (F : Fr h₀ L s.heap m) (X : (K9 w.params).In h₀) (N : News h₀ L s.heap (M ++ rest)) (T : Top topProg loose mean mg mb h₀) (hk : cs.kind = .function) (hI : ∀ p ∈ I, p ∈ rest) (hM : ∀ p ∈ M, ∀ q ∈ rest, q.1 ≠ p.1) (hd : dp + d < recursionLimit) (hu : un + 12 * d < cLine)
    (ret : D (fun r A' => ∀ h' tk', Fr h₀ L h' m → News h₀ L h' (A' ++ rest) → (∀ p ∈ A', AptL p.1 rest) → Q r { s with heap := h', toks := tk' })) :
    wpAny (model PP w) (ktrTop dp un gd cn cs L a ccd cl outer) (call (.ref f) vs) Q E s :=
  C _ _ _ _ _ _ _ _ _ _ _ _ _ _ _ _ _ _ _ _ _ _ B F X N hI hM T hk hd hu (fun r A' h' tk' F' N' Z' p => el _ ret r A' p h' tk' F' N' Z')
end

theorem ce0 {h₀ : Heap} {L I C D : Addr} {m : Str → Option Value} {s₁ : Shared} {oI oC oD : Obj} {S : Led → Prop} {rest : Value → Led → Prop} {y : Value} {h' : Heap} {tk : Nat} {news : Led}
    (F : Fr h₀ L h' m) (N : News h₀ L h' ((I, oI) :: (C, oC) :: (D, oD) :: news)) (off : LCg.Off3 I C D news) (hS : S news) (r : rest y news) :
    LCg.CompEnd h₀ L m s₁ I oI C oC D oD S rest y { s₁ with heap := h', toks := tk } := LCg.CompEnd.intro F N news (fun _ h => h) off hS r
theorem ce1 {h₀ : Heap} {L I C D : Addr} {m : Str → Option Value} {s₁ : Shared} {oI oC oD : Obj} {S : Led → Prop} {rest : Value → Led → Prop} {y : Value} {h' : Heap} {tk : Nat} {n1 : Addr × Obj} {news : Led}
    (F : Fr h₀ L h' m) (N : News h₀ L h' (n1 :: (I, oI) :: (C, oC) :: (D, oD) :: news)) (o1 : @Ne Nat n1.1 I) (o2 : @Ne Nat n1.1 C) (o3 : @Ne Nat n1.1 D) (off : LCg.Off3 I C D news) (hS : S (n1 :: news)) (r : rest y (n1 :: news)) :
    LCg.CompEnd h₀ L m s₁ I oI C oC D oD S rest y { s₁ with heap := h', toks := tk } := LCg.CompEnd.intro F N (n1 :: news) (fun p h => by simp only [List.mem_cons] at h ⊢; rcases h with h | h | h | h | h <;> simp [h]) ⟨⟨o1, o2, o3⟩, off⟩ hS r

theorem ints_len : ∀ {vs : List Value} {T : List Int}, IntsAre vs T → vs.length = T.length
  | _, _, .nil => rfl
  | _, _, .cons _ _ r => congrArg (· + 1) (ints_len r)
theorem len_is {vs : List Value} {T : List Int} (h : IntsAre vs T) : ((vs.toArray.size : Nat) : Int) = (T.length : Int) := by
  rw [List.size_toArray, ints_len h]
theorem ints_snoc : ∀ {vs : List Value} {T : List Int} {x y : Int} {t : Tok}, IntsAre vs T → x = y → IntsAre (vs ++ [.int x t]) (T ++ [y])
  | _, _, _, _, _, .nil, e => e ▸ .cons _ _ .nil
  | _, _, _, _, _, .cons a t r, e => .cons a t (ints_snoc r e)
theorem ints_app : ∀ {vs us : List Value} {T S : List Int}, IntsAre vs T → IntsAre us S → IntsAre (vs ++ us) (T ++ S)
  | _, _, _, _, .nil, h => h
  | _, _, _, _, .cons a t r, h => .cons a t (ints_app r h)
theorem ints_get : ∀ {vs : List Value} {T : List Int} {i : Nat}, IntsAre vs T → i < T.length → ∃ t, vs[i]? = some (.int (T.getD i 0) t)
  | _, _, i, .nil, h => absurd h (Nat.not_lt_zero _)
  | _, _, 0, .cons _ _ _, _ => ⟨_, rfl⟩
  | _, _, i + 1, .cons _ _ r, h => by
    obtain ⟨t, e⟩ := ints_get r (Nat.lt_of_succ_lt_succ h)
    exact ⟨t, by simpa using e⟩
section
variable {prog : Program} {w : World} {A : Around} {E : Value → Shared → Prop} {s : Shared} {h₀ : Heap} {L l : Addr} {m : Str → Option Value} {news news' : Led} {vs : List Value} {n : Nat} {k : Int} {u : Tok} {v : Value}
theorem item_sym {value slice : PySem.Expr} {Q : Value → Shared → Prop} (N : News h₀ L s.heap news) (hm : (l, listOf vs.toArray n) ∈ news) (h0 : 0 ≤ k) (hhi : k < 2 ^ 63) (hx : vs[k.toNat]? = some v) (h : Q v s)
    (hs : subscripted slice false (.ref l) (.int k u) = operate [.ref l, .int k u] (getItem (.ref l) (.int k u)) := by with_unfolding_all rfl) :
    wpAny (model prog w) A (subscriptTail value slice (.ref l) (.int k u)) Q E s :=
  have hl : s.heap.IsList l vs.toArray := ⟨_, (N _ hm).1, rfl, n, rfl⟩
  tail_any hl.typeIs slot_list_getitem.lookup (wpAny_getItem_list hl h0 hhi (by simpa using hx) h) hs
theorem dict_copy {K : Type} [DecidableEq K] {knd : KeyKind prog w K} {kvs : List (K × Value)} {o : Addr} {od : Obj} {Q : Value → Shared → Prop} (F : Fr h₀ L s.heap m) (N : News h₀ L s.heap news) (hbig : h₀.NoLimit) (hm : (o, od) ∈ news) (lo : (o == sysModules) = false) (hd : od.IsDictOf knd kvs) (hsz : kvs.length ≤ sizeLine)
    (k : ∀ d h' o', Fr h₀ L h' m → News h₀ L h' ((d, o') :: news) → (∀ p ∈ news, p.1 < d) → (d == sysModules) = false → o'.IsDictOf knd kvs → Q (.ref d) { s with heap := h' }) :
    wpAny (model prog w) A (call (.type "dict") [.ref o]) Q E s := by
  refine kt_call_dict lo (Heap.dictOf_iff.mpr ⟨od, (N _ hm).1, hd⟩) hsz fun h' hmm hs => ?_
  obtain ⟨o', ho', hd'⟩ := Heap.dictOf_iff.mp hmm
  have N1 := News.push F N { cls := .type "dict", data := .dict #[] }
  exact k _ h' o' ((F.push _).change hs (N1 _ (.head _)).2.1 (N1.fresh (.head _))) (N1.setHead N.apart hs ho') (fun p hp => Heap.lt_size (N p hp).1) (F.notModules (modules_low hbig)) hd'
theorem seqIdx {k : Int} {n : Nat} (h0 : 0 ≤ k) (h : k.toNat < n) : seqIndex? k n = some k.toNat := seqIndex_of h0 (by omega)
theorem item_ints {value slice : PySem.Expr} {Q : Value → Shared → Prop} {T : List Int} (N : News h₀ L s.heap news) (hm : (l, listOf vs.toArray n) ∈ news) (hI : IntsAre vs T) (h0 : 0 ≤ k) (hk : k.toNat < T.length) (hf : k < 2 ^ 63) (h : ∀ t, Q (.int (T.getD k.toNat 0) t) s)
    (hs : subscripted slice false (.ref l) (.int k u) = operate [.ref l, .int k u] (getItem (.ref l) (.int k u)) := by with_unfolding_all rfl) :
    wpAny (model prog w) A (subscriptTail value slice (.ref l) (.int k u)) Q E s := by
  obtain ⟨t, ht⟩ := ints_get hI hk
  exact item_sym N hm h0 hf ht (h t) hs
theorem item_last {value slice : PySem.Expr} {Q : Value → Shared → Prop} {T : List Int} {u : Tok} (N : News h₀ L s.heap news) (hm : (l, listOf vs.toArray n) ∈ news) (hI : IntsAre vs T) (h1 : 1 ≤ T.length) (hf : T.length < 2 ^ 62) (h : ∀ t, Q (.int (T.getD (T.length - 1) 0) t) s)
    (hs : subscripted slice false (.ref l) (.int (-1) u) = operate [.ref l, .int (-1) u] (getItem (.ref l) (.int (-1) u)) := by with_unfolding_all rfl) :
    wpAny (model prog w) A (subscriptTail value slice (.ref l) (.int (-1) u)) Q E s := by
  obtain ⟨t, ht⟩ := ints_get hI (show T.length - 1 < T.length by omega)
  have hl : s.heap.IsList l vs.toArray := ⟨_, (N _ hm).1, rfl, n, rfl⟩
  have hz : vs.length = T.length := ints_len hI
  have hz' : vs.toArray.size = T.length := by rw [List.size_toArray]; exact hz
  refine tail_any hl.typeIs slot_list_getitem.lookup (wpAny_getItem_list_neg hl (by omega) (by omega) (by omega) ?_ (h t)) hs
  have e : ((-1 : Int) + vs.toArray.size).toNat = T.length - 1 := by omega
  rw [e]
  simpa using ht
theorem itemT_sym {value slice : PySem.Expr} {Q : Value → Shared → Prop} (N : News h₀ L s.heap news) (hm : (l, tupObj vs.toArray) ∈ news) (h0 : 0 ≤ k) (hhi : k < 2 ^ 63) (hx : vs[k.toNat]? = some v) (h : Q v s)
    (hs : subscripted slice false (.ref l) (.int k u) = operate [.ref l, .int k u] (getItem (.ref l) (.int k u)) := by with_unfolding_all rfl) :
    wpAny (model prog w) A (subscriptTail value slice (.ref l) (.int k u)) Q E s :=
  item_tupleT (News.isTup N hm) (by omega) hhi (seqIdx h0 (List.getElem?_eq_some_iff.mp hx).1) hx h hs
theorem setL_some : ∀ {xs : List Value} {i : Nat} (v : Value), i < xs.length → ki_setL xs i v = some (xs.set i v)
  | [], _, _, h => absurd h (Nat.not_lt_zero _)
  | _ :: _, 0, _, _ => rfl
  | _ :: r, i + 1, v, h => by
    have := setL_some (xs := r) (i := i) v (Nat.lt_of_succ_lt_succ h)
    simp [ki_setL, this]
theorem store_sym {Q : Unit → Shared → Prop} (F : Fr h₀ L s.heap m) (N : News h₀ L s.heap news) (h0 : 0 ≤ k) (hf : k < 2 ^ 63) (hl : k.toNat < vs.length) (U : Upd l (listOf vs.toArray n) (listOf (vs.set k.toNat v).toArray n) news news')
    (h : ∀ h', Fr h₀ L h' m → News h₀ L h' news' → Q () { s with heap := h' }) : wpAny (model prog w) A (setItem (.ref l) (.int k u) v) Q E s :=
  ki_set F N h0 hf (setL_some v hl) U h
end
theorem stored_len (kvs : List (Int × Value)) (k : Int) (v : Value) : (stored kvs k v).length ≤ kvs.length + 1 := by
  unfold stored
  split <;> simp
theorem stored_fits {kvs : List (Int × Value)} {k : Int} {v : Value} (h : kvs.length + 1 ≤ sizeLine) : (stored kvs k v).length ≤ sizeLine := Nat.le_trans (stored_len kvs k v) h

theorem comp_ind {prog : Program} {w : World} {A : Around} {h₀ : Heap} {L : Addr} {m : Str → Option Value} {env : Env} {elt : PySem.Expr} {x : Str} {scope : PySem.Scope} {cl : List (Str × Addr)} {s : Shared} {S : Led → Prop} {P : Nat → Value → Prop} {Fn : List Value → Led → Prop} {n : Nat} (J : Nat → List Value → Led → Prop)
    (step : ∀ i ys news, i < n → J i ys news → ∀ v I oI C oC D m₂ h tk (E' : Value → Shared → Prop), P i v → LCg.NsObj oC m₂ → m₂ x = some v → Fr h₀ L h m → News h₀ L h ((I, oI) :: (C, oC) :: (D, LCg.lst ys) :: news) → LCg.Off3 I C D news →
      wpAny (model prog w) A (eval elt (compEnvC scope cl C env)) (LCg.CompEnd h₀ L m { s with heap := h, toks := tk } I oI C oC D (LCg.lst ys) S (fun y news' => J (i + 1) (ys ++ [y]) news')) E' { s with heap := h, toks := tk })
    (fin : ∀ ys news, J n ys news → Fn ys news) : ∀ k i ys news, i + k = n → J i ys news → LCg.CompRest prog w A h₀ L m env elt x scope cl s S P Fn k i ys news
  | 0, i, ys, news, e, hJ => fin ys news (by have : i = n := by omega
                                             subst this; exact hJ)
  | k + 1, i, ys, news, e, hJ => fun v I oI C oC D m₂ h tk E' hP hC hx F N off _ => by
    refine wpAny_mono (step i ys news (by omega) hJ v I oI C oC D m₂ h tk E' hP hC hx F N off) (fun y s₂ hce => ?_) fun _ _ e => e
    obtain ⟨h', tk', news', e', F', N', o', hS, r⟩ := hce
    exact ⟨h', tk', news', e', F', N', o', hS, comp_ind J step fin k (i + 1) (ys ++ [y]) news' (by omega) r⟩

theorem allObj_mono : ∀ {ws : List (Addr × String)} {k k' : Led → Prop}, (∀ its, k its → k' its) → AllObj ws k → AllObj ws k'
  | [], _, _, h, x => h _ x
  | _ :: _, _, _, h, x => fun o e => allObj_mono (fun its => h _) (x o e)
theorem items_ind {prog : Program} {w : World} {A : Around} {E : Value → Shared → Prop} {h₀ : Heap} {env : Env} {target : PySem.Expr} {body : List Stmt} {Q : Flow → Shared → Prop} {s : Shared} {ws : List (Addr × String)} {keep : Led} {α β : Type} (it : α → Itm) (nxt : β → α → β) (J : β → (Str → Option Value) → Led → Prop)
    (step : ∀ (x : α) (b : β) m news, J b m news → ∀ v h tk, (it x).Is v h → Fr h₀ env.locals h m → AllObj ws (fun its => News h₀ env.locals h (its ++ news) →
      wpAny (model prog w) A (assign target env v) (fun _ s₂ => wpAny (model prog w) A (execs body env) (UnrPostW h₀ env.locals { s with heap := h, toks := tk } its (fun m' n' => SubL keep n' ∧ J (nxt b x) m' n') Q) E s₂) E { s with heap := h, toks := tk })) :
    ∀ (xs : List α) (b : β) m news, J b m news → (∀ m news, J (xs.foldl nxt b) m news → ∀ h tk, Fr h₀ env.locals h m → News h₀ env.locals h news → Q .next { s with heap := h, toks := tk }) →
      ItemsRest prog w A E h₀ env target body Q s ws keep (xs.map it) m news
  | [], _, _, _, hJ, fin => fun h tk F N => fin _ _ hJ h tk F N
  | x :: r, b, m, news, hJ, fin => fun v h tk hv F => by
    have ih := items_ind it nxt J step r (nxt b x)
    have st := step x b m news hJ v h tk hv F
    refine allObj_mono ?_ st
    intro its hs N
    refine wpAny_mono (hs N) (fun _ s₂ h₂ => wpAny_mono h₂ (fun f s₃ h₃ => ?_) fun _ _ e => e) fun _ _ e => e
    have up : UnrEndW h₀ env.locals { s with heap := h, toks := tk } its (fun m' n' => SubL keep n' ∧ J (nxt b x) m' n') s₃ → UnrEndW h₀ env.locals { s with heap := h, toks := tk } its (fun m' n' => SubL keep n' ∧ ItemsRest prog w A E h₀ env target body Q s ws keep (r.map it) m' n') s₃ := by
      rintro ⟨h', tk', m', news', e, F', N', ho, hk, hj⟩
      exact ⟨h', tk', m', news', e, F', N', ho, hk, ih m' news' hj fin⟩
    cases f with
    | ret v => exact h₃
    | brk => exact h₃
    | next => exact up h₃
    | cont => exact up h₃

theorem items_indN {prog : Program} {w : World} {A : Around} {E : Value → Shared → Prop} {h₀ : Heap} {env : Env} {target : PySem.Expr} {body : List Stmt} {Q : Flow → Shared → Prop} {s : Shared} {ws : List (Addr × String)} {keep : Led} {α β : Type} (it : α → Itm) (nxt : β → α → β) (J : Nat → β → (Str → Option Value) → Led → Prop)
    (step : ∀ (x : α) (k : Nat) (b : β) m news, J (k + 1) b m news → ∀ v h tk, (it x).Is v h → Fr h₀ env.locals h m → AllObj ws (fun its => News h₀ env.locals h (its ++ news) →
      wpAny (model prog w) A (assign target env v) (fun _ s₂ => wpAny (model prog w) A (execs body env) (UnrPostW h₀ env.locals { s with heap := h, toks := tk } its (fun m' n' => SubL keep n' ∧ J k (nxt b x) m' n') Q) E s₂) E { s with heap := h, toks := tk })) :
    ∀ (xs : List α) (b : β) m news, J xs.length b m news → (∀ m news, J 0 (xs.foldl nxt b) m news → ∀ h tk, Fr h₀ env.locals h m → News h₀ env.locals h news → Q .next { s with heap := h, toks := tk }) →
      ItemsRest prog w A E h₀ env target body Q s ws keep (xs.map it) m news
  | [], _, _, _, hJ, fin => fun h tk F N => fin _ _ hJ h tk F N
  | x :: r, b, m, news, hJ, fin => fun v h tk hv F => by
    have ih := items_indN it nxt J step r (nxt b x)
    have st := step x r.length b m news hJ v h tk hv F
    refine allObj_mono ?_ st
    intro its hs N
    refine wpAny_mono (hs N) (fun _ s₂ h₂ => wpAny_mono h₂ (fun f s₃ h₃ => ?_) fun _ _ e => e) fun _ _ e => e
    have up : UnrEndW h₀ env.locals { s with heap := h, toks := tk } its (fun m' n' => SubL keep n' ∧ J r.length (nxt b x) m' n') s₃ → UnrEndW h₀ env.locals { s with heap := h, toks := tk } its (fun m' n' => SubL keep n' ∧ ItemsRest prog w A E h₀ env target body Q s ws keep (r.map it) m' n') s₃ := by
      rintro ⟨h', tk', m', news', e, F', N', ho, hk, hj⟩
      exact ⟨h', tk', m', news', e, F', N', ho, hk, ih m' news' hj fin⟩
    cases f with
    | ret v => exact h₃
    | brk => exact h₃
    | next => exact up h₃
    | cont => exact up h₃

noncomputable def TurnEnd (h₀ : Heap) (L : Addr) (its R : Led) (s₁ : Shared) (J : (Str → Option Value) → Prop) (s₂ : Shared) : Prop :=
  ∃ h' tk m' all, s₂ = { s₁ with heap := h', toks := tk } ∧ Fr h₀ L h' m' ∧ News h₀ L h' all ∧ (∀ p ∈ its, p ∈ all) ∧ (∀ p ∈ R, p ∈ all) ∧ J m'
noncomputable def TurnPost (h₀ : Heap) (L : Addr) (its R : Led) (s₁ : Shared) (J : (Str → Option Value) → Prop) (Q : Flow → Shared → Prop) (f : Flow) (s₂ : Shared) : Prop :=
  match f with
  | .ret v => Q (.ret v) s₂
  | .brk => Q .next s₂
  | _ => TurnEnd h₀ L its R s₁ J s₂
theorem turn_end' {h₀ h' : Heap} {L : Addr} {its R all : Led} {s₁ : Shared} {J : (Str → Option Value) → Prop} {m' : Str → Option Value} {tk : Nat} (F : Fr h₀ L h' m') (N : News h₀ L h' all) (hi : ∀ p ∈ its, p ∈ all) (hR : ∀ p ∈ R, p ∈ all) (hJ : J m') : TurnEnd h₀ L its R s₁ J { s₁ with heap := h', toks := tk } :=
  ⟨h', tk, m', all, rfl, F, N, hi, hR, hJ⟩
noncomputable def Agr (ns : List Str) (m m0 : Str → Option Value) : Prop := ∀ y, y ∉ ns → m y = m0 y
theorem Agr.refl {ns : List Str} {m : Str → Option Value} : Agr ns m m := fun _ _ => rfl
theorem Agr.set {ns : List Str} {m m0 : Str → Option Value} {x : Str} {v : Option Value} (h : Agr ns m m0) (hx : ns.contains x = true) : Agr ns (fun y => if y = x then v else m y) m0 := fun y hy => by
  have : y ≠ x := fun e => hy (by rw [e]; simpa using hx)
  simp only [this, if_false]; exact h y hy
theorem Agr.get {ns : List Str} {m m0 : Str → Option Value} {x : Str} {v : Option Value} (h : Agr ns m m0) (hx : ns.contains x = false) (e : m0 x = v) : m x = v := by
  rw [← e]; exact h x (fun q => by rw [List.contains_iff_mem.mpr q] at hx; cases hx)
section
variable {w : World} {A : Around} {E : Value → Shared → Prop} {h₀ : Heap} {env : Env} {target : PySem.Expr} {body : List Stmt} {Q : Flow → Shared → Prop} {s : Shared} {R : Led} {m0 : Str → Option Value} {α β : Type}
theorem rest_loop {I : Addr} {cls : String} {keep : Led} (it : α → Value) (nxt : β → α → β) (J : β → (Str → Option Value) → Prop) (hk : SubL keep R) (hI : ∀ p ∈ R, p.1 < I)
    (step : ∀ (x : α) (b : β) m, J b m → ∀ (J' : (Str → Option Value) → Prop) (Q' : Flow → Shared → Prop), (∀ m', J (nxt b x) m' → J' m') → (∀ v s, Q (.ret v) s → Q' (.ret v) s) → ∀ o' h tk, Fr h₀ env.locals h m → News h₀ env.locals h ((I, o') :: R) →
      wpAny (model PP w) A (assign target env (it x)) (fun _ s₂ => wpAny (model PP w) A (execs body env) (TurnPost h₀ env.locals [(I, o')] R { s with heap := h, toks := tk } J' Q') E s₂) E { s with heap := h, toks := tk })
    (xs : List α) (b : β) (hJ : J b m0) (fin : ∀ m, J (xs.foldl nxt b) m → ∀ h tk, Fr h₀ env.locals h m → News h₀ env.locals h R → Q .next { s with heap := h, toks := tk }) :
      ItemsRest PP w A E h₀ env target body Q s [(I, cls)] keep (xs.map fun x => Itm.val (it x)) m0 R := by
  have := items_ind (prog := PP) (w := w) (A := A) (E := E) (h₀ := h₀) (env := env) (target := target) (body := body) (Q := Q) (s := s) (ws := [(I, cls)]) (keep := keep) (fun x : α => Itm.val (it x)) nxt (fun b m news => news = R ∧ J b m) (fun x b m news hb v h tk hv F => ?_) xs b m0 R ⟨rfl, hJ⟩ (fun m news hb h tk F N => fin m hb.2 h tk F (hb.1 ▸ N))
  · exact this
  obtain ⟨rfl, hb⟩ := hb
  have hv' : v = it x := hv
  subst hv'
  refine AllObj.cons (fun o' _ => AllObj.nil (fun N => ?_))
  refine wpAny_mono (step x b m hb (J (nxt b x)) Q (fun _ z => z) (fun _ _ z => z) o' h tk F (by simpa using N)) (fun _ s₂ h₂ => wpAny_mono h₂ (fun f s₃ h₃ => ?_) fun _ _ e => e) fun _ _ e => e
  have up : TurnEnd h₀ env.locals [(I, o')] news { s with heap := h, toks := tk } (J (nxt b x)) s₃ → UnrEndW h₀ env.locals { s with heap := h, toks := tk } ([(I, o')] ++ []) (fun m' n' => SubL keep n' ∧ n' = news ∧ J (nxt b x) m') s₃ := by
    rintro ⟨h', tk', m', all, e, F', N', hi, hR, hj⟩
    refine ⟨h', tk', m', news, e, F', fun p hp => ?_, fun p hp q hq => ?_, hk, rfl, hj⟩
    · simp only [List.append_nil, List.cons_append, List.nil_append, List.mem_cons] at hp
      rcases hp with rfl | hp
      · exact N' _ (hi _ (List.mem_singleton.mpr rfl))
      · exact N' _ (hR _ hp)
    · have : q = (I, o') := by simpa using hq
      subst this
      exact Nat.ne_of_lt (hI p hp)
  cases f with
  | ret v => exact h₃
  | brk => exact h₃
  | next => exact up h₃
  | cont => exact up h₃
theorem tup_loop {t : Addr} {xs : List α} (it : α → Value) (nxt : β → α → β) (J : β → (Str → Option Value) → Prop) (b : β) (hh : A.handled = none) (F : Fr h₀ env.locals s.heap m0) (N : News h₀ env.locals s.heap R) (hm : (t, tupObj (xs.map it).toArray) ∈ R) (hJ : J b m0)
    (step : ∀ I, (∀ p ∈ R, p.1 < I) → ∀ (x : α) (b : β) m, J b m → ∀ (J' : (Str → Option Value) → Prop) (Q' : Flow → Shared → Prop), (∀ m', J (nxt b x) m' → J' m') → (∀ v s, Q (.ret v) s → Q' (.ret v) s) → ∀ o' h tk, Fr h₀ env.locals h m → News h₀ env.locals h ((I, o') :: R) →
      wpAny (model PP w) A (assign target env (it x)) (fun _ s₂ => wpAny (model PP w) A (execs body env) (TurnPost h₀ env.locals [(I, o')] R { s with heap := h, toks := tk } J' Q') E s₂) E { s with heap := h, toks := tk })
    (fin : ∀ m, J (xs.foldl nxt b) m → ∀ h tk, Fr h₀ env.locals h m → News h₀ env.locals h R → Q .next { s with heap := h, toks := tk }) :
    wpAny (model PP w) A (pyIter (.ref t)) (fun it s₂ => TurnsAt PP w A h₀ env target body Q E it s₂) E s := by
  refine iter_tupTurns (vs := xs.map it) hh F N hm rfl rfl fun I hI => ?_
  rw [List.map_map]
  exact rest_loop (keep := [(t, tupObj (xs.map it).toArray)]) it nxt J ⟨hm, trivial⟩ hI (step I hI) xs b hJ fin
theorem list_loop {t : Addr} {n : Nat} {xs : List α} (it : α → Value) (nxt : β → α → β) (J : β → (Str → Option Value) → Prop) (b : β) (hh : A.handled = none) (F : Fr h₀ env.locals s.heap m0) (N : News h₀ env.locals s.heap R) (hm : (t, listOf (xs.map it).toArray n) ∈ R) (hJ : J b m0)
    (step : ∀ I, (∀ p ∈ R, p.1 < I) → ∀ (x : α) (b : β) m, J b m → ∀ (J' : (Str → Option Value) → Prop) (Q' : Flow → Shared → Prop), (∀ m', J (nxt b x) m' → J' m') → (∀ v s, Q (.ret v) s → Q' (.ret v) s) → ∀ o' h tk, Fr h₀ env.locals h m → News h₀ env.locals h ((I, o') :: R) →
      wpAny (model PP w) A (assign target env (it x)) (fun _ s₂ => wpAny (model PP w) A (execs body env) (TurnPost h₀ env.locals [(I, o')] R { s with heap := h, toks := tk } J' Q') E s₂) E { s with heap := h, toks := tk })
    (fin : ∀ m, J (xs.foldl nxt b) m → ∀ h tk, Fr h₀ env.locals h m → News h₀ env.locals h R → Q .next { s with heap := h, toks := tk }) :
    wpAny (model PP w) A (pyIter (.ref t)) (fun it s₂ => TurnsAt PP w A h₀ env target body Q E it s₂) E s := by
  refine iter_listTurns (vs := xs.map it) hh F N hm rfl rfl fun I hI => ?_
  rw [List.map_map]
  exact rest_loop (keep := [(t, listOf (xs.map it).toArray n)]) it nxt J ⟨hm, trivial⟩ hI (step I hI) xs b hJ fin
theorem range_loop {x : Str} {r : Addr} {a₀ b₀ : Int} {t₀ u₀ v₀ : Tok} {n : Nat} (J : Nat → (Str → Option Value) → Prop) (hh : A.handled = none) (hr : IsRange s.heap r a₀ b₀ 1 t₀ u₀ v₀) (hsmall : Builtin.Range.small a₀ b₀ 1 = true) (hn : Builtin.Range.rangeSize a₀ b₀ 1 = (n : Int)) (F : Fr h₀ env.locals s.heap m0) (N : News h₀ env.locals s.heap R) (hJ : J 0 m0)
    (step : ∀ I, (∀ p ∈ R, p.1 < I) → ∀ i m, i < n → J i m → ∀ (J' : (Str → Option Value) → Prop) (Q' : Flow → Shared → Prop), (∀ m', J (i + 1) m' → J' m') → (∀ v s, Q (.ret v) s → Q' (.ret v) s) → ∀ t o' h tk, Fr h₀ env.locals h (fun y => if y = x then some (.int (a₀ + (i : Int)) t) else m y) → News h₀ env.locals h ((I, o') :: R) →
      wpAny (model PP w) A (execs body env) (TurnPost h₀ env.locals [(I, o')] R { s with heap := h, toks := tk } J' Q') E { s with heap := h, toks := tk })
    (fin : ∀ m, J n m → ∀ h tk, Fr h₀ env.locals h m → News h₀ env.locals h R → Q .next { s with heap := h, toks := tk }) :
    wpAny (model PP w) A (pyIter (.ref r)) (fun it s₂ => LoopAtV PP w A h₀ env x body Q E it s₂) E s := by
  refine iter_rangeUnr hh hr hsmall hn F N fun I hI => ?_
  have : ∀ k i m, i + k = n → J i m → RangeRest PP w A E h₀ env x body Q s I a₀ n k i m R := by
    intro k
    induction k with
    | zero => intro i m e hJ h tk F N; obtain rfl : i = n := by omega
              exact fin m hJ h tk F N
    | succ k ih =>
      intro i m e hJ t h tk F N
      refine wpAny_mono (step I hI i m (by omega) hJ (J (i + 1)) Q (fun _ z => z) (fun _ _ z => z) t _ h tk F N) (fun f s₃ h₃ => ?_) fun _ _ e => e
      have up : TurnEnd h₀ env.locals [(I, itR (a₀ + ((i + 1 : Nat) : Int)) ((n : Int) - ((i + 1 : Nat) : Int)))] R { s with heap := h, toks := tk } (J (i + 1)) s₃ → UnrEnd h₀ env.locals { s with heap := h, toks := tk } I (itR (a₀ + ((i + 1 : Nat) : Int)) ((n : Int) - ((i + 1 : Nat) : Int))) (RangeRest PP w A E h₀ env x body Q s I a₀ n k (i + 1)) s₃ := by
        rintro ⟨h', tk', m', all, e', F', N', hi, hR, hj⟩
        refine ⟨h', tk', m', R, e', F', fun p hp => ?_, fun p hp => Nat.ne_of_lt (hI p hp), ih (i + 1) m' (by omega) hj⟩
        rcases List.mem_cons.mp hp with rfl | hp
        · exact N' _ (hi _ (List.mem_singleton.mpr rfl))
        · exact N' _ (hR _ hp)
      cases f with
      | ret v => exact h₃
      | brk => exact h₃
      | next => exact up h₃
      | cont => exact up h₃
  exact this n 0 m0 (Nat.zero_add n) hJ
end
section
variable {w : World} {A : Around} {E : Value → Shared → Prop} {h₀ : Heap} {env : Env} {body : List Stmt} {Q : Flow → Shared → Prop} {s : Shared} {news : Led} {m₀ : Str → Option Value} {x : Str} {px : Pos}
noncomputable def rangeItems (a : Int) (n : Nat) : List Itm := (List.range n).map fun (i : Nat) => Itm.tok (fun t => .int (a + (i : Int)) t)
theorem iter_rangeTurns {r : Addr} {a₀ b₀ : Int} {t₀ u₀ v₀ : Tok} {n : Nat} (hh : A.handled = none) (hr : IsRange s.heap r a₀ b₀ 1 t₀ u₀ v₀) (hsmall : Builtin.Range.small a₀ b₀ 1 = true) (hn : Builtin.Range.rangeSize a₀ b₀ 1 = (n : Int)) (F : Fr h₀ env.locals s.heap m₀) (N : News h₀ env.locals s.heap news)
    (rest₀ : ∀ I : Addr, (∀ p ∈ news, p.1 < I) → ItemsRest PP w A E h₀ env (.Name x px) body Q s [(I, "range_iterator")] [] (rangeItems a₀ n) m₀ news) :
    wpAny (model PP w) A (pyIter (.ref r)) (fun it s₂ => TurnsAt PP w A h₀ env (.Name x px) body Q E it s₂) E s := by
  refine wpAny_pyIter_range hr hsmall ?_
  refine ktu_core (tk0 := s.toks) (keep := []) (KTurns.ofWalks ((Walks.range hh s.heap.objs.size a₀ 1 n).bound) fun i v s Q E st q => wpAny_of_eq (rfl : letOwnedTupleGo (.Name x px) (.ref _) v = pure ()) q) (by simp [rangeItems]) (fun i v h hp => ?_) (fun i h st => ?_) (fun b hb => ?_) (fun b hb => by simpa using hb) (fun b hb => .inl (by simpa using hb)) ?_ (fun p hp hI => ?_) ?_ (F.push _) (fun p hp => ⟨Heap.get?_push_of_some _ (N p hp).1, (N p hp).2⟩) trivial (rest₀ _ fun p hp => Heap.lt_size (N p hp).1)
  · obtain ⟨hi, t, rfl⟩ := hp
    refine ⟨.tok (fun t => .int (a₀ + (i : Int)) t), by simp [rangeItems, hi], t, by rw [Int.mul_one]⟩
  · have st' : h.get? s.heap.objs.size = some (itR (a₀ + (i : Nat) * 1) ((n : Int) - (i : Nat))) := st
    exact ⟨[(s.heap.objs.size, _)], ⟨⟨rfl, rfl⟩, trivial⟩, fun p hp => by rw [List.mem_singleton.mp hp]; exact st'⟩
  · have hb' : b = s.heap.objs.size := by simpa using hb
    rw [hb']
    exact ⟨List.mem_cons_self .., next_is_new F⟩
  · intro hI
    exact absurd F.ns.lt ((List.mem_singleton.mp hI) ▸ Nat.lt_irrefl _)
  · exact absurd (Heap.lt_size (N p hp).1) ((List.mem_singleton.mp hI) ▸ Nat.lt_irrefl _)
  · show IsRangeIter _ _ _ _ _
    rw [hn]; simpa using Heap.get?_push_size _ rfl
theorem range_loopT {r : Addr} {a₀ b₀ : Int} {t₀ u₀ v₀ : Tok} {n : Nat} (J : Nat → (Str → Option Value) → Led → Prop) (hh : A.handled = none) (hr : IsRange s.heap r a₀ b₀ 1 t₀ u₀ v₀) (hsmall : Builtin.Range.small a₀ b₀ 1 = true) (hn : Builtin.Range.rangeSize a₀ b₀ 1 = (n : Int)) (F : Fr h₀ env.locals s.heap m₀) (N : News h₀ env.locals s.heap news) (hJ : J 0 m₀ news)
    (step : ∀ I, (∀ p ∈ news, p.1 < I) → ∀ i m nw, i < n → J i m nw → ∀ (J' : (Str → Option Value) → Led → Prop) (Q' : Flow → Shared → Prop), (∀ m' n', J (i + 1) m' n' → J' m' n') → (∀ v s, Q (.ret v) s → Q' (.ret v) s) → ∀ t o' h tk, Fr h₀ env.locals h m → News h₀ env.locals h ((I, o') :: nw) →
      wpAny (model PP w) A (assign (.Name x px) env (.int (a₀ + (i : Int)) t)) (fun _ s₂ => wpAny (model PP w) A (execs body env) (UnrPostW h₀ env.locals { s with heap := h, toks := tk } [(I, o')] J' Q') E s₂) E { s with heap := h, toks := tk })
    (fin : ∀ m nw, J n m nw → ∀ h tk, Fr h₀ env.locals h m → News h₀ env.locals h nw → Q .next { s with heap := h, toks := tk }) :
    wpAny (model PP w) A (pyIter (.ref r)) (fun it s₂ => TurnsAt PP w A h₀ env (.Name x px) body Q E it s₂) E s := by
  refine iter_rangeTurns hh hr hsmall hn F N fun I hI => ?_
  have e : rangeItems a₀ n = (List.range n).map fun (i : Nat) => Itm.tok (fun t => .int (a₀ + (i : Int)) t) := rfl
  have key : ∀ k i m nw, i + k = n → J i m nw → ItemsRest PP w A E h₀ env (.Name x px) body Q s [(I, "range_iterator")] [] ((List.range' i k).map fun (i : Nat) => Itm.tok (fun t => .int (a₀ + (i : Int)) t)) m nw := by
    intro k
    induction k with
    | zero => intro i m nw e hJ h tk F N
              obtain rfl : i = n := by omega
              exact fin m nw hJ h tk F N
    | succ k ih =>
      intro i m nw e hJ
      rw [List.range'_succ, List.map_cons]
      refine ItemsRest.tok fun t h tk F => AllObj.cons (fun o' _ => AllObj.nil (fun N => ?_))
      refine wpAny_mono (step I hI i m nw (by omega) hJ (J (i + 1)) Q (fun _ _ z => z) (fun _ _ z => z) t o' h tk F (by simpa using N)) (fun _ s₂ h₂ => wpAny_mono h₂ (fun f s₃ h₃ => ?_) fun _ _ e => e) fun _ _ e => e
      have up : UnrEndW h₀ env.locals { s with heap := h, toks := tk } [(I, o')] (J (i + 1)) s₃ → UnrEndW h₀ env.locals { s with heap := h, toks := tk } ([(I, o')] ++ []) (fun m' n' => SubL [] n' ∧ ItemsRest PP w A E h₀ env (.Name x px) body Q s [(I, "range_iterator")] [] ((List.range' (i + 1) k).map fun (i : Nat) => Itm.tok (fun t => .int (a₀ + (i : Int)) t)) m' n') s₃ := by
        rintro ⟨h', tk', m', n', e', F', N', ho, hj⟩
        exact ⟨h', tk', m', n', e', F', N', ho, trivial, ih (i + 1) m' n' (by omega) hj⟩
      cases f with
      | ret v => exact h₃
      | brk => exact h₃
      | next => exact up h₃
      | cont => exact up h₃
  rw [e, List.range_eq_range']
  exact key n 0 m₀ news (Nat.zero_add n) hJ
end
theorem fill (w : World) : ∀ h : Heap, (K9 w.params).In h → PySem.Challenge.rw_xp0027_01.row.prog = PySem.Challenge.rw_xp0027_01.row.prog := by
  k_fill
  intros; rfl
theorem neG1 {y : Nat} : y + 1 ≠ y := Nat.succ_ne_self y
theorem neG2 {y : Nat} : y + 1 + 1 ≠ y := Nat.ne_of_gt (Nat.lt_succ_of_lt (Nat.lt_succ_self y))
theorem neG3 {y : Nat} : y + 1 + 1 + 1 ≠ y := Nat.ne_of_gt (Nat.lt_succ_of_lt (Nat.lt_succ_of_lt (Nat.lt_succ_self y)))
theorem neL1 {y : Nat} : y ≠ y + 1 := Nat.ne_of_lt (Nat.lt_succ_self y)
theorem neL2 {y : Nat} : y ≠ y + 1 + 1 := Nat.ne_of_lt (Nat.lt_succ_of_lt (Nat.lt_succ_self y))
theorem neL3 {y : Nat} : y ≠ y + 1 + 1 + 1 := Nat.ne_of_lt (Nat.lt_succ_of_lt (Nat.lt_succ_of_lt (Nat.lt_succ_self y)))
theorem leL1 {y : Nat} : y ≤ y + 1 := Nat.le_succ y
theorem leL2 {y : Nat} : y ≤ y + 1 + 1 := Nat.le_add_right y 2
theorem leL3 {y : Nat} : y ≤ y + 1 + 1 + 1 := Nat.le_add_right y 3
theorem leL4 {y : Nat} : y ≤ y + 1 + 1 + 1 + 1 := Nat.le_add_right y 4
theorem b63 {p : Prop} {k c : Int} (h : p ∧ k < c) (e : decide (c ≤ 2 ^ 63) = true) : k < 2 ^ 63 := Int.lt_of_lt_of_le h.2 (of_decide_eq_true e)
theorem unitA {un a b c : Nat} (h : un + b + 9 < c) (e : Nat.ble a (b + 9) = true) : un + a < c := Nat.lt_of_le_of_lt (Nat.add_le_add_left (Nat.le_of_ble_eq_true e) un) h
theorem unitB {un b c : Nat} (h : un + b + 9 < c) : un < c := Nat.lt_of_le_of_lt (Nat.le_add_right un (b + 9)) h
theorem roomA {dp a b c : Nat} (h : dp + b < c) (e : Nat.ble a b = true) : dp + a < c := Nat.lt_of_le_of_lt (Nat.add_le_add_left (Nat.le_of_ble_eq_true e) dp) h
theorem roomB {dp b c : Nat} (h : dp + b < c) : dp < c := Nat.lt_of_le_of_lt (Nat.le_add_right dp b) h
theorem len_cons {α : Type} {l : List α} {n : Nat} (h : l.length = n + 1) : ∃ a r, l = a :: r ∧ r.length = n := by
  cases l with
  | nil => exact absurd h.symm (Nat.succ_ne_zero _)
  | cons a r => exact ⟨a, r, rfl, Nat.succ.inj h⟩
theorem four_of {α : Type} {l : List α} (h : l.length = 4) : ∃ a b c d, l = [a, b, c, d] := by
  obtain ⟨a, r, rfl, h1⟩ := len_cons h
  obtain ⟨b, r, rfl, h2⟩ := len_cons h1
  obtain ⟨c, r, rfl, h3⟩ := len_cons h2
  obtain ⟨d, r, rfl, h4⟩ := len_cons h3
  obtain rfl := List.length_eq_zero_iff.mp h4
  exact ⟨a, b, c, d, rfl⟩
theorem ne_m1 {R : Led} {D a : Nat} {o : Obj} (h : ∀ p ∈ R, @LT.lt Nat _ p.1 D) (m : (a, o) ∈ R) : a ≠ D := Nat.ne_of_lt (h _ m)
theorem ne_m2 {R : Led} {D a : Nat} {o : Obj} (h : ∀ p ∈ R, @LT.lt Nat _ p.1 D) (m : (a, o) ∈ R) : D ≠ a := Nat.ne_of_gt (h _ m)
theorem all_lt_ne {R : Led} {D : Nat} (h : ∀ p ∈ R, @LT.lt Nat _ p.1 D) : ∀ p ∈ R, @Ne Nat p.1 D := fun p hp => Nat.ne_of_lt (h p hp)
end
section
set_option maxRecDepth 10000
open PySem PySem.W
noncomputable def runT {α : Type} (f : Nat → Nat → Bool) : KasT α → α
  | .ret a => a
  | .ask i j k => runT f (k (f i j))
noncomputable def withinT {α : Type} (n : Nat) : KasT α → Bool
  | .ret _ => true
  | .ask i j k => decide (i < n) && decide (j < n) && withinT n (k true) && withinT n (k false)
theorem runT_wp {α : Type} {cmp : Nat → Nat → (Bool → Shared → Prop) → Shared → Prop} {f : Nat → Nat → Bool} {n : Nat} {s : Shared} {G : α → Shared → Prop}
    (h : ∀ i j, i < n → j < n → ∀ C : Bool → Shared → Prop, C (f i j) s → cmp i j C s) : ∀ t : KasT α, withinT n t = true → G (runT f t) s → t.kasWp cmp G s
  | .ret _, _, hg => hg
  | .ask i j k, hw, hg => by
    unfold withinT at hw
    simp only [Bool.and_eq_true, decide_eq_true_eq] at hw
    refine h i j hw.1.1.1 hw.1.1.2 _ ?_
    refine runT_wp h (k (f i j)) ?_ hg
    cases f i j
    · exact hw.2
    · exact hw.1.2
theorem sort4_within : withinT 4 (kas_sort 4) = true := by decide +kernel
theorem sort4_all : (all4.all fun r => decide ((runT (fun i j => lx r i j) (kas_sort 4)).toList.map (fun i : Nat => (i : Int)) = srt r)) = true := by decide +kernel
end
section
set_option maxRecDepth 100000
open PySem PySem.W PySem.Spec PySem.Calls PyProof.Rows PyProof
section
variable {prog : Program} {w : World} {A : Around} {E : Value → Shared → Prop} {s : Shared} {h₀ : Heap} {L : Addr} {m : Str → Option Value} {news : List (Addr × Obj)}
theorem collect_range {r : Addr} {a b c : Int} {t u v : Tok} {n : Nat} {Q : List Value → Shared → Prop} (hh : A.handled = none) (hr : IsRange s.heap r a b c t u v) (hsmall : Builtin.Range.small a b c = true)
    (hn : Builtin.Range.rangeSize a b c = n) (hlen : n ≤ 2 ^ 24)
    (h : ∀ h' tk vs, (∀ b o, s.heap.get? b = some o → h'.get? b = some o) → ItemsOf (fun i v => ∃ t, v = .int (a + i * c) t) (List.toArray vs) n → Q vs { s with heap := h', toks := tk }) :
    wpAny (model prog w) A (collect (.ref r)) Q E s := by
  unfold collect
  refine wpAny_bind (wpAny_runValue (codeAny_builtin entry_proto_collect' ?_))
  show wpAny _ _ (do again (.builtin "list.__iadd__" ⟨[← newList [], .ref r], []⟩)) _ _ s
  refine wpAny_bind (wpAny_newList (wpAny_pure ⟨Code.quiet_builtin _ (by decide +kernel), codeAny_builtin entry_list_iadd' ?_⟩))
  refine wpAny_extend_range (R := fun r s' => match r with
    | .ok (.ret v) => wpAny (model prog w) A (match v with
      | .ref a => do
        let o ← load a
        match o.data with
        | .seq xs _ => pure xs.toList
        | _ => unsupported "internal:collect"
      | _ => unsupported "internal:collect") Q E s'
    | .ok _ => False
    | .error e => E e s') hh (s := { s with heap := s.heap.push (seqObj "list" #[] 0) }) (Heap.get?_push_of_some _ hr) hsmall hn hlen s.heap.objs.size (.ref s.heap.objs.size) 0 (Heap.get?_push_size _ rfl) fun h' tk acc c' hk hS hitems => ?_
  show wpAny (model prog w) A (do
      let o ← load s.heap.objs.size
      match o.data with
      | .seq xs _ => pure xs.toList
      | _ => unsupported "internal:collect") Q E { s with heap := h', toks := tk }
  refine wpAny_bind (wpAny_load hS ?_)
  show wpAny _ _ (pure acc.toList) Q E _
  exact wpAny_pure (h h' tk acc.toList (fun b o e => hk b o (Nat.ne_of_lt (Heap.lt_size e)) (Heap.get?_push_of_some _ e)) (by simpa using hitems))
theorem sortedK_range {l : Addr} {b : Bool} {f : Value} {kw : List (Str × Value)} {Q : Value → Shared → Prop} {a e c : Int} {t u v : Tok} {n : Nat} (F : Fr h₀ L s.heap m) (N : News h₀ L s.heap news) (hh : A.handled = none) (hr : IsRange s.heap l a e c t u v) (hsmall : Builtin.Range.small a e c = true)
    (hn : Builtin.Range.rangeSize a e c = n) (h2 : 2 ≤ n) (h64 : n < 64)
    (ha1 : argsOk "sorted" ⟨[.ref l], kw⟩) (ha2 : ∀ x, argsOk "list.sort" ⟨[.ref x], kw⟩) (ht : ∀ x, Builtin.«list.sort» ⟨[.ref x], kw⟩ = ksk_tree x f b)
    (h : ∀ D kS e1 h' tk vs, ItemsOf (fun i v => ∃ t, v = .int (a + i * c) t) (List.toArray vs) n → Fr h₀ L h' m → News h₀ L h' ((kS, seqObj "list" #[] 0) :: (D, seqObj "list" #[] e1) :: news) → D < kS → (∀ q ∈ news, q.1 < D) →
      KatKeys prog w A.in1.in1 h₀ L m kS f (fun ks e s' => wpAny (model prog w) A.in1.in1 (keyKind' (List.toArray ks)) (fun κ s'' => (kas_sort vs.length).kasWp (kas_ask prog w A.in1.in1 κ (katRev b ks)) (fun p s3 => KatFin h₀ L m kS D ks e e1 (katRev b (p.toList.map fun i => (katRev b vs).getD i Value.none)) (fun s4 => Q (.ref D) s4) s3) s'') (fun _ _ => False) s') vs [] 0 { s with heap := h', toks := tk }) :
    wpAny (model prog w) A (call (.builtin "sorted") [.ref l] kw) Q E s := by
  refine call_function_entry_kw kind_sorted plain_sorted entry_sorted ha1 ?_
  unfold Builtin.«sorted»
  refine wpAny_bind (m := checkCount "sorted" 1 1 _) (wpAny_pure ?_)
  refine wpAny_bind (collect_range (n := n) hh hr hsmall hn (by omega) fun h1 tk vs hk hvs => ?_)
  have hvl : vs.length = n := by have := hvs.1; simpa using this
  refine wpAny_bind (wpAny_newList ?_ (by rw [sizeLine_eq]; omega))
  have hoL : (h1.push (seqObj "list" vs.toArray 0)).get? h1.objs.size = some (seqObj "list" vs.toArray 0) := Heap.get?_push_size _ rfl
  have keep : ∀ b o, s.heap.get? b = some o → (h1.push (seqObj "list" vs.toArray 0)).get? b = some o := fun b o q => Heap.get?_push_of_some _ (hk b o q)
  have F1 : Fr h₀ L h1 m := F.kept hk
  have hL : L < h1.objs.size := F1.ns.lt
  refine wpAny_bind (wpAny_holding (wpAny_call_entry_kw slot_list_sort ⟨_, hoL, rfl⟩ entry_list_sort ?body (ha2 _)))
  case body =>
    have ht' := ht h1.objs.size
    show wpAny (model prog w) A.in1.in1 (Builtin.«list.sort» ⟨[.ref h1.objs.size], kw⟩) _ _ _
    rw [ht']
    refine kat_keyed (s := { s with heap := h1.push (seqObj "list" vs.toArray 0), toks := tk })
      (F.kept keep) (N.grown keep) hoL (Nat.ne_of_gt hL) (Heap.get?_none_of_le (Nat.le_trans F1.above (Nat.le_of_lt hL)))
      (fun p hp => Nat.ne_of_lt (Heap.lt_size (hk _ _ (N p hp).1))) (by omega) (by omega) fun kS e1 h' F' N' l0 l1 => ?_
    refine kat_keys_mono (h _ kS e1 h' tk vs hvs F' N' l0 fun q hq => Heap.lt_size (hk _ _ (N q hq).1)) fun ks e s' hl' hd => ?_
    have hl2 : ks.length = vs.length := by simpa using hl'
    refine wpAny_mono hd (fun κ s'' hk => ?_) fun _ _ x => x
    rw [kat_ask_eq (vs := katRev b vs) (by rw [kat_len, kat_len, hl2])] at hk ⊢
    exact kas_wp_mono hk fun p s3 hk' => hk'.mono fun s4 hq => ⟨_, rfl, wpAny_pure ⟨_, rfl, hq⟩⟩
noncomputable abbrev rangeObj (a b c : Int) (t u v : Tok) : Obj := { cls := .type "range", data := .fields #[.int a t, .int b u, .int c v] }
theorem range_led {Q : Value → Shared → Prop} {n : Int} {t : Tok} (F : Fr h₀ L s.heap m) (N : News h₀ L s.heap news)
    (h : ∀ r h' tk t₁ u₁ v₁, Fr h₀ L h' m → News h₀ L h' ((r, rangeObj 0 n 1 t₁ u₁ v₁) :: news) → L < r → (∀ q ∈ news, q.1 < r) → Q (.ref r) { s with heap := h', toks := tk }) :
    wpAny (model prog w) A (call (.type "range") [.int n t]) Q E s := by
  have hL := F.ns.lt
  refine call_range_1 ?_
  refine h s.heap.objs.size (s.heap.push (rangeObj 0 n 1 s.toks t (s.toks + 1))) _ s.toks t (s.toks + 1) (F.push _) (fun p hp => ?_) hL fun q hq => Heap.lt_size (N q hq).1
  rcases List.mem_cons.mp hp with rfl | hp
  · exact ⟨Heap.get?_push_size _ rfl, Nat.ne_of_gt hL, Heap.get?_none_of_le (Nat.le_trans F.above (Nat.le_of_lt hL))⟩
  · exact ⟨Heap.get?_push_of_some _ (N p hp).1, (N p hp).2⟩
theorem range_led_is {h : Heap} {r : Addr} {a b c : Int} {t u v : Tok} (N : News h₀ L h news) (hm : (r, rangeObj a b c t u v) ∈ news) : IsRange h r a b c t u v := (N _ hm).1
theorem ints_of4 {vs : List Value} (h : ItemsOf (fun i v => ∃ t, v = .int (0 + (i : Nat) * 1) t) (List.toArray vs) 4) : ∃ t0 t1 t2 t3, vs = [.int 0 t0, .int 1 t1, .int 2 t2, .int 3 t3] := by
  obtain ⟨h1, h2⟩ := h
  have hl : vs.length = 4 := by simpa using h1
  obtain ⟨a, b, c, d, rfl⟩ := four_of hl
  obtain ⟨t0, e0⟩ := h2 0 a rfl
  obtain ⟨t1, e1⟩ := h2 1 b rfl
  obtain ⟨t2, e2⟩ := h2 2 c rfl
  obtain ⟨t3, e3⟩ := h2 3 d rfl
  exact ⟨t0, t1, t2, t3, by rw [e0, e1, e2, e3]; rfl⟩
theorem pair_lt {x y : Addr} {a b k l : Int} {ta tk tb tl : Tok} {bb : Bool} {C : Bool → Shared → Prop} (hb : bb = true) (hx : s.heap.get? x = some (tupObj #[.int a ta, .int k tk])) (hy : s.heap.get? y = some (tupObj #[.int b tb, .int l tl]))
    (h : C (if a = b then decide (k < l) else decide (a < b)) s) : wpAny (model prog w) A (keyLt' (tuples' bb) (.ref x) (.ref y)) C E s := by
  subst hb
  refine kat_lt hx rfl hy rfl ?_
  refine kat_cons (wpAny_eqBool_int ?_)
  refine kat_go (fun e => kat_yes ?_) (fun e => kat_no ?_)
  · rw [if_pos (by simpa using e)] at h
    refine kat_cons (wpAny_eqBool_int ?_)
    refine kat_go (fun e2 => kat_yes (kat_nil ?_)) (fun e2 => kat_no (kat_one _ _ (lt_int h)))
    have e3 : k = l := by simpa using e2
    have e4 : decide (k < l) = false := by subst e3; simp
    rw [e4] at h
    exact h
  · rw [if_neg (by simpa using e)] at h
    exact oneLt_int h
theorem lx_pair {col : Int → Int} {i j : Int} (hi : i ∈ [(0 : Int), 1, 2, 3]) (hj : j ∈ [(0 : Int), 1, 2, 3]) : (if col i = col j then decide (i < j) else decide (col i < col j)) = lx (rks col) i j := by
  unfold lx
  simp only [rks_lt hi hj, rks_lt hj hi]
  by_cases a : col i = col j
  · have h1 : ¬ col i < col j := by omega
    have h2 : ¬ col j < col i := by omega
    rw [if_pos a, if_neg h1, if_neg h2]
  · rw [if_neg a]
    by_cases b : col i < col j
    · rw [if_pos b]; simp [b]
    · have c : col j < col i := by omega
      rw [if_neg b, if_pos c]; simp [b]
theorem sort4_tups {x0 x1 x2 x3 : Addr} {c0 c1 c2 c3 : Int} {a0 a1 a2 a3 b0 b1 b2 b3 : Tok} {bb : Bool} {G : Array Nat → Shared → Prop} {col : Int → Int} (hb : bb = true) (N : News h₀ L s.heap news)
    (h0 : (x0, tupObj #[.int c0 a0, .int 0 b0]) ∈ news) (h1 : (x1, tupObj #[.int c1 a1, .int 1 b1]) ∈ news) (h2 : (x2, tupObj #[.int c2 a2, .int 2 b2]) ∈ news) (h3 : (x3, tupObj #[.int c3 a3, .int 3 b3]) ∈ news)
    (e0 : c0 = col 0) (e1 : c1 = col 1) (e2 : c2 = col 2) (e3 : c3 = col 3) (hG : ∀ p : Array Nat, p.toList.map (fun i : Nat => (i : Int)) = srt (rks col) → G p s) :
    (kas_sort 4).kasWp (kas_ask prog w A (tuples' bb) [.ref x0, .ref x1, .ref x2, .ref x3]) G s := by
  subst e0; subst e1; subst e2; subst e3
  have at' : ∀ i : Nat, i < 4 → ∃ x ta tb, ([.ref x0, .ref x1, .ref x2, .ref x3] : List Value).getD i Value.none = .ref x ∧ s.heap.get? x = some (tupObj #[.int (col (i : Int)) ta, .int (i : Int) tb]) ∧ (i : Int) ∈ [(0 : Int), 1, 2, 3] := by
    intro i hi
    match i, hi with
    | 0, _ => exact ⟨x0, _, _, rfl, (N _ h0).1, by decide⟩
    | 1, _ => exact ⟨x1, _, _, rfl, (N _ h1).1, by decide⟩
    | 2, _ => exact ⟨x2, _, _, rfl, (N _ h2).1, by decide⟩
    | 3, _ => exact ⟨x3, _, _, rfl, (N _ h3).1, by decide⟩
  refine runT_wp (n := 4) (f := fun i j => lx (rks col) (i : Int) (j : Int)) (fun i j hi hj C hC => ?_) _ sort4_within (hG _ (of_decide_eq_true (List.all_eq_true.mp sort4_all _ (rks_in col))))
  obtain ⟨x, ta, tb, ex, gx, mi⟩ := at' i hi
  obtain ⟨y, tc, td, ey, gy, mj⟩ := at' j hj
  unfold kas_ask
  rw [ex, ey]
  refine pair_lt hb gx gy ?_
  rw [lx_pair mi mj]
  exact hC
theorem out_ints {p : Array Nat} {l : List Int} {t0 t1 t2 t3 : Tok} (hp : p.toList.map (fun i : Nat => (i : Int)) = l) (hl : ∀ n ∈ l, n ∈ [(0 : Int), 1, 2, 3]) :
    IntsAre (p.toList.map fun i => ([.int 0 t0, .int 1 t1, .int 2 t2, .int 3 t3] : List Value).getD i Value.none) l := by
  subst hp
  generalize p.toList = q at *
  induction q with
  | nil => exact .nil
  | cons i r ih =>
    have hi := hl i (by simp)
    have ir := ih fun n hn => hl n (by simp only [List.map_cons]; exact List.mem_cons_of_mem _ hn)
    have : i = 0 ∨ i = 1 ∨ i = 2 ∨ i = 3 := by simp at hi; omega
    rcases this with rfl | rfl | rfl | rfl
    · exact .cons 0 t0 ir
    · exact .cons 1 t1 ir
    · exact .cons 2 t2 ir
    · exact .cons 3 t3 ir
end
end
section
open PySem PySem.W PyProof.Rows PySem.Spec PySem.Calls
theorem ints_form : ∀ {vs : List Value} {ns : List Int}, IntsAre vs ns → ∃ l : List (Int × Tok), vs = l.map (fun p => Value.int p.1 p.2) ∧ l.map (·.1) = ns
  | [], [], _ => ⟨[], rfl, rfl⟩
  | _ :: _, _ :: _, .cons n t h => by
    obtain ⟨l, e1, e2⟩ := ints_form h
    exact ⟨(n, t) :: l, by rw [e1]; rfl, by rw [← e2]; rfl⟩
theorem enum_map (l : List (Int × Tok)) (a : Nat) : enumItems a (l.map fun p => Value.int p.1 p.2) = (l.zipIdx a).map fun q => Itm.pair (fun t => .int (q.2 : Int) t) (.int q.1.1 q.1.2) := by
  induction l generalizing a with
  | nil => rfl
  | cons x r ih => simp only [List.map_cons, enumItems, List.zipIdx_cons, ih]
theorem zip_map {α : Type} (f g : α → Value) : ∀ l : List α, zipItems (l.map f) (l.map g) = l.map fun x => Itm.pair (fun _ => f x) (g x)
  | [] => rfl
  | x :: r => by simp only [List.map_cons, zipItems, zip_map f g r]
theorem Agr.trans {ns : List Str} {m m1 m0 : Str → Option Value} (h : Agr ns m m1) (h' : Agr ns m1 m0) : Agr ns m m0 := fun y hy => (h y hy).trans (h' y hy)
theorem Agr.wide {ns ns' : List Str} {m m0 : Str → Option Value} (h : Agr ns m m0) (hs : ns.all (fun x => ns'.contains x) = true) : Agr ns' m m0 := fun y hy => h y fun hn => hy (List.contains_iff_mem.mp (List.all_eq_true.mp hs y hn))
noncomputable def TurnEnd1 (h₀ : Heap) (L : Addr) (its : Led) (d : Addr) (R : Led) (s₁ : Shared) (J : Obj → (Str → Option Value) → Prop) (s₂ : Shared) : Prop :=
  ∃ h' tk m' all o', s₂ = { s₁ with heap := h', toks := tk } ∧ Fr h₀ L h' m' ∧ News h₀ L h' all ∧ (∀ p ∈ its, p ∈ all) ∧ (d, o') ∈ all ∧ (∀ p ∈ R, p ∈ all) ∧ J o' m'
noncomputable def TurnPost1 (h₀ : Heap) (L : Addr) (its : Led) (d : Addr) (R : Led) (s₁ : Shared) (J : Obj → (Str → Option Value) → Prop) (Q : Flow → Shared → Prop) (f : Flow) (s₂ : Shared) : Prop :=
  match f with
  | .ret v => Q (.ret v) s₂
  | .brk => Q .next s₂
  | _ => TurnEnd1 h₀ L its d R s₁ J s₂
theorem turn_end1 {h₀ h' : Heap} {L d : Addr} {o' : Obj} {its R all : Led} {s₁ : Shared} {J : Obj → (Str → Option Value) → Prop} {m' : Str → Option Value} {tk : Nat} (F : Fr h₀ L h' m') (N : News h₀ L h' all) (hi : ∀ p ∈ its, p ∈ all) (hd : (d, o') ∈ all) (hR : ∀ p ∈ R, p ∈ all) (hJ : J o' m') : TurnEnd1 h₀ L its d R s₁ J { s₁ with heap := h', toks := tk } :=
  ⟨h', tk, m', all, o', rfl, F, N, hi, hd, hR, hJ⟩
section
variable {w : World} {A : Around} {E : Value → Shared → Prop} {h₀ : Heap} {env : Env} {body : List Stmt} {Q : Flow → Shared → Prop} {s : Shared} {R : Led} {m0 : Str → Option Value} {elts : List PySem.Expr} {k : Nat} {pos : Pos}
theorem enum_loop {l d : Addr} {o : Obj} {n : Nat} {xs : List (Int × Tok)} (J : Obj → (Str → Option Value) → Prop) (hh : A.handled = none) (F : Fr h₀ env.locals s.heap m0) (N : News h₀ env.locals s.heap ((d, o) :: R)) (hm : (l, listOf (xs.map fun p => Value.int p.1 p.2).toArray n) ∈ R) (hJ : J o m0)
    (step : ∀ I, (∀ p ∈ R, p.1 < I) → d < I → ∀ (i : Nat) (a : Int) (t : Tok) o m, J o m → ∀ (J' : Obj → (Str → Option Value) → Prop) (Q' : Flow → Shared → Prop), (∀ o m', J o m' → J' o m') → (∀ v s, Q (.ret v) s → Q' (.ret v) s) → ∀ T u o1 o2 h tk, IsTup h T #[.int (i : Int) u, .int a t] → Fr h₀ env.locals h m → News h₀ env.locals h ((d, o) :: (I + 1, o1) :: (I, o2) :: R) →
      wpAny (model PP w) A (assign (.Tuple elts k pos) env (.ref T)) (fun _ s₂ => wpAny (model PP w) A (execs body env) (TurnPost1 h₀ env.locals [(I + 1, o1), (I, o2)] d R { s with heap := h, toks := tk } J' Q') E s₂) E { s with heap := h, toks := tk })
    (fin : ∀ o m, J o m → ∀ h tk, Fr h₀ env.locals h m → News h₀ env.locals h ((d, o) :: R) → Q .next { s with heap := h, toks := tk }) :
    wpAny (model PP w) A (call (.type "enumerate") [.ref l]) (fun xv s₁ => wpAny (model PP w) A (pyIter xv) (fun it s₂ => TurnsAt PP w A h₀ env (.Tuple elts k pos) body Q E it s₂) E s₁) E s := by
  refine ktu_enum hh F N (List.Mem.tail _ hm) rfl rfl (enum_map xs 0) fun I hI => ?_
  have hId : d < I := hI (d, o) (List.Mem.head _)
  have hIR : ∀ p ∈ R, p.1 < I := fun p hp => hI p (List.Mem.tail _ hp)
  refine items_ind (β := Unit) _ (fun _ _ => ()) (fun _ m news => ∃ o, news = (d, o) :: R ∧ J o m) (fun x b m news hb v h tk hv F => ?_) _ () m0 _ ⟨o, rfl, hJ⟩ (fun m news hb h tk F N => by obtain ⟨o, rfl, hj⟩ := hb; exact fin o m hj h tk F N)
  obtain ⟨o₃, rfl, hj⟩ := hb
  obtain ⟨T, u, rfl, hT⟩ := hv
  refine AllObj.cons (fun o1 _ => AllObj.cons (fun o2 _ => AllObj.nil (fun N => ?_)))
  have N₂ : News h₀ env.locals h ((d, o₃) :: (I + 1, o1) :: (I, o2) :: R) := fun p hp => N p (by
    simp only [List.mem_cons, List.cons_append, List.nil_append] at hp ⊢
    rcases hp with h | h | h | h
    · exact .inr (.inr (.inl h))
    · exact .inl h
    · exact .inr (.inl h)
    · exact .inr (.inr (.inr h)))
  refine wpAny_mono (step I hIR hId x.2 x.1.1 x.1.2 o₃ m hj J Q (fun _ _ z => z) (fun _ _ z => z) T u o1 o2 h tk hT F N₂) (fun _ s₂ h₂ => wpAny_mono h₂ (fun f s₃ h₃ => ?_) fun _ _ e => e) fun _ _ e => e
  have up : TurnEnd1 h₀ env.locals [(I + 1, o1), (I, o2)] d R { s with heap := h, toks := tk } J s₃ → UnrEndW h₀ env.locals { s with heap := h, toks := tk } ([(I + 1, o1), (I, o2)]) (fun m' n' => SubL [(l, listOf (xs.map fun p => Value.int p.1 p.2).toArray n)] n' ∧ ∃ o, n' = (d, o) :: R ∧ J o m') s₃ := by
    rintro ⟨h', tk', m', all, o', e, F', N', hi, hd, hR, hj⟩
    refine ⟨h', tk', m', (d, o') :: R, e, F', fun p hp => ?_, fun p hp q hq => ?_, ⟨List.Mem.tail _ hm, trivial⟩, o', rfl, hj⟩
    · simp only [List.cons_append, List.nil_append, List.mem_cons] at hp
      rcases hp with rfl | rfl | rfl | hp
      · exact N' _ (hi _ (List.Mem.head _))
      · exact N' _ (hi _ (List.Mem.tail _ (List.Mem.head _)))
      · exact N' _ hd
      · exact N' _ (hR _ hp)
    · have hp' : p.1 < I := by
        rcases List.mem_cons.mp hp with rfl | hp
        · exact hId
        · exact hIR p hp
      have : q.1 = I + 1 ∨ q.1 = I := by
        simp only [List.mem_cons, List.not_mem_nil, or_false] at hq
        rcases hq with rfl | rfl
        · exact .inl rfl
        · exact .inr rfl
      rcases this with e | e <;> rw [e]
      · exact Nat.ne_of_lt (Nat.lt_succ_of_lt hp')
      · exact Nat.ne_of_lt hp'
  cases f with
  | ret v => exact h₃
  | brk => exact h₃
  | next => exact up h₃
  | cont => exact up h₃
theorem zip_loop {α : Type} {l1 l2 : Addr} {n1 n2 : Nat} {xs : List α} (f g : α → Value) (J : (Str → Option Value) → Prop) (hh : A.handled = none) (F : Fr h₀ env.locals s.heap m0) (N : News h₀ env.locals s.heap R) (hm1 : (l1, listOf (xs.map f).toArray n1) ∈ R) (hm2 : (l2, listOf (xs.map g).toArray n2) ∈ R) (hJ : J m0)
    (step : ∀ I, (∀ p ∈ R, p.1 < I) → ∀ (x : α) m, J m → ∀ (J' : (Str → Option Value) → Prop) (Q' : Flow → Shared → Prop), (∀ m', J m' → J' m') → (∀ v s, Q (.ret v) s → Q' (.ret v) s) → ∀ T its h tk, IsTup h T #[f x, g x] → Fr h₀ env.locals h m → (∀ p ∈ its, I ≤ p.1) → News h₀ env.locals h (its ++ R) →
      wpAny (model PP w) A (assign (.Tuple elts k pos) env (.ref T)) (fun _ s₂ => wpAny (model PP w) A (execs body env) (TurnPost h₀ env.locals its R { s with heap := h, toks := tk } J' Q') E s₂) E { s with heap := h, toks := tk })
    (fin : ∀ m, J m → ∀ h tk, Fr h₀ env.locals h m → News h₀ env.locals h R → Q .next { s with heap := h, toks := tk }) :
    wpAny (model PP w) A (call (.type "zip") [.ref l1, .ref l2]) (fun xv s₁ => wpAny (model PP w) A (pyIter xv) (fun it s₂ => TurnsAt PP w A h₀ env (.Tuple elts k pos) body Q E it s₂) E s₁) E s := by
  refine ktu_zip hh F N hm1 rfl rfl hm2 rfl rfl fun I hI => ?_
  rw [zip_map]
  refine items_ind (β := Unit) _ (fun _ _ => ()) (fun _ m news => news = R ∧ J m) (fun x b m news hb v h tk hv F => ?_) _ () m0 _ ⟨rfl, hJ⟩ (fun m news hb h tk F N' => by obtain ⟨e, hj⟩ := hb; exact fin m hj h tk F (e ▸ N'))
  obtain ⟨rfl, hj⟩ := hb
  obtain ⟨T, u, rfl, hT⟩ := hv
  refine AllObj.cons (fun o1 _ => AllObj.cons (fun o2 _ => AllObj.cons (fun o3 _ => AllObj.cons (fun o4 _ => AllObj.cons (fun o5 _ => AllObj.nil (fun N => ?_))))))
  have hge : ∀ p ∈ [(I + 4, o1), (I + 2, o2), (I + 3, o3), (I, o4), (I + 1, o5)], I ≤ p.1 := fun p hp => by
    simp only [List.mem_cons, List.not_mem_nil, or_false] at hp
    rcases hp with rfl | rfl | rfl | rfl | rfl <;> first | exact Nat.le_add_right _ _ | exact Nat.le_refl _
  revert hge N
  generalize ([(I + 4, o1), (I + 2, o2), (I + 3, o3), (I, o4), (I + 1, o5)] : Led) = its
  intro N hge
  refine wpAny_mono (step I hI x m hj J Q (fun _ z => z) (fun _ _ z => z) T its h tk hT F hge N) (fun _ s₂ h₂ => wpAny_mono h₂ (fun fl s₃ h₃ => ?_) fun _ _ e => e) fun _ _ e => e
  have up : TurnEnd h₀ env.locals its news { s with heap := h, toks := tk } J s₃ → UnrEndW h₀ env.locals { s with heap := h, toks := tk } its (fun m' n' => SubL [(l1, listOf (xs.map f).toArray n1), (l2, listOf (xs.map g).toArray n2)] n' ∧ n' = news ∧ J m') s₃ := by
    rintro ⟨h', tk', m', all, e, F', N', hi, hR, hj⟩
    refine ⟨h', tk', m', news, e, F', fun p hp => ?_, fun p hp q hq => Nat.ne_of_lt (Nat.lt_of_lt_of_le (hI p hp) (hge q hq)), ⟨hm1, hm2, trivial⟩, rfl, hj⟩
    rcases List.mem_append.mp hp with hp | hp
    · exact N' _ (hi _ hp)
    · exact N' _ (hR _ hp)
  cases fl with
  | ret v => exact h₃
  | brk => exact h₃
  | next => exact up h₃
  | cont => exact up h₃
end
end
section
set_option maxRecDepth 100000
open PySem PySem.W PyProof.Rows PySem.Spec PySem.Calls
noncomputable def holdIds : List String := "bytearray.__contains__" :: "bytearray.__mod__" :: "bytearray.__rmod__" :: "_struct.pack_into.held" :: "bytearray.find.held" :: Builtin.Bytes.decodersThatHold
noncomputable def okCode : Code → Bool
  | .builtin id _ => !(holdIds.contains id)
  | _ => true
noncomputable def Cl (Γ : PySem.Ctx) : Prop := okCode Γ.code = true ∧ ∀ x ∈ Γ.below, okCode x.1 = true
noncomputable def wpK {α : Type} (M : Model) (A : Around) (t : Sem α) (Q : α → Shared → Prop) (E : Value → Shared → Prop) (s : Shared) : Prop :=
  ∀ Γ p, Γ.In A → Cl Γ → Sem.wp M Γ t (fun a _ s' => Q a s') (fun e _ s' => E e s') p s
noncomputable def codeK (M : Model) (A : Around) (c : Code) (R : Result → Shared → Prop) (s : Shared) : Prop :=
  ∀ Γ p, Γ.code = c → Γ.Below A → Cl Γ → wpCode M Γ R p s
section
variable {M : Model} {A : Around} {E : Value → Shared → Prop} {s : Shared} {α β : Type}
theorem wpK.of {t : Sem α} {Q : α → Shared → Prop} (h : wpAny M A t Q E s) : wpK M A t Q E s := fun Γ p hΓ _ => h Γ p hΓ
theorem codeK.of {c : Code} {R : Result → Shared → Prop} (h : codeAny M A c R s) : codeK M A c R s := fun Γ p hc hΓ _ => h Γ p hc hΓ
theorem wpK.mono {E' : Value → Shared → Prop} {t : Sem α} {Q Q' : α → Shared → Prop} (h : wpK M A t Q E s) (hQ : ∀ a s, Q a s → Q' a s) (hE : ∀ e s, E e s → E' e s) : wpK M A t Q' E' s :=
  fun Γ p hΓ k => Sem.wp_mono M Γ t (fun a _ s' => hQ a s') (fun e _ s' => hE e s') p s (h Γ p hΓ k)
theorem wpK.bind {m : Sem α} {f : α → Sem β} {Q : β → Shared → Prop} (h : wpK M A m (fun a s' => wpK M A (f a) Q E s') E s) : wpK M A (m >>= f) Q E s := fun Γ p hΓ k => by
  rw [Sem.wp_bind']
  exact Sem.wp_mono M Γ m (fun a p' s' h' => h' Γ p' hΓ k) (fun _ _ _ h' => h') p s (h Γ p hΓ k)
theorem wpK.bind1 {m : Sem α} {f : α → Sem β} {Q : β → Shared → Prop} (h : wpAny M A m (fun a s' => wpK M A (f a) Q E s') E s) : wpK M A (m >>= f) Q E s := .bind (.of h)
theorem wpK.bind2 {m : Sem α} {f : α → Sem β} {Q : β → Shared → Prop} (h : wpK M A m (fun a s' => wpAny M A (f a) Q E s') E s) : wpK M A (m >>= f) Q E s := .bind (h.mono (fun _ _ x => .of x) fun _ _ x => x)
theorem wpK.onRaise {m : Sem α} {k : Value → Sem Unit} {Q : α → Shared → Prop} (h : wpK M A m Q (fun e s' => wpAny M A (k e) (fun _ s'' => E e s'') E s') s) : wpK M A (m.onRaise k) Q E s := fun Γ p hΓ kk => by
  rw [Sem.wp_onRaise]
  exact Sem.wp_mono M Γ m (fun _ _ _ h' => h') (fun e p' s' h' => h' Γ p' hΓ) p s (h Γ p hΓ kk)
theorem wpK.stack {Q : List (Code × Pos) → Shared → Prop} (h : ∀ st : List (Code × Pos), (∀ x ∈ st, okCode x.1 = true) → Q st s) : wpK M A stack Q E s := fun Γ p _ k => by
  show Q ((Γ.code, p) :: Γ.below) s
  refine h _ fun x hx => ?_
  rcases List.mem_cons.mp hx with rfl | hx
  · exact k.1
  · exact k.2 x hx
theorem Cl.enter {Γ : PySem.Ctx} {c : Code} {h : Option Value} {p : Pos} (k : Cl Γ) (hc : okCode c = true) : Cl (Γ.enter c h p) := ⟨hc, fun x hx => by
  rcases List.mem_cons.mp (show x ∈ (Γ.code, p) :: Γ.below from hx) with rfl | hx
  · exact k.1
  · exact k.2 x hx⟩
theorem wpK.runValue {c : Code} {Q : Value → Shared → Prop} (hok : okCode c = true)
    (hc : codeK M A c (fun r s' => match r with | .ok (.ret v) => Q v s' | .ok _ => False | .error e => E e s') s) : wpK M A (runValue c) Q E s := fun Γ p hΓ k => by
  rw [Sem.wp_runValue]; exact hc _ p rfl (hΓ.enter c none p (by intro x; cases x)) (k.enter hok)
theorem wpK.call {f : Value} {pos : List Value} {kw : List (Str × Value)} {Q : Value → Shared → Prop}
    (hc : codeK M A (.call f ⟨pos, kw⟩) (fun r s' => match r with | .ok (.ret v) => Q v s' | .ok _ => False | .error e => E e s') s) : wpK M A (call f pos kw) Q E s := .runValue rfl hc
theorem codeK.mono {c : Code} {R R' : Result → Shared → Prop} (h : codeK M A c R s) (hR : ∀ r s, R r s → R' r s) : codeK M A c R' s := fun Γ p hc hΓ k => wpCode_mono hR (h Γ p hc hΓ k)
theorem codeK.tree {c : Code} {R : Result → Shared → Prop}
    (h : wpK M (A.under c) (M.den c) (fun fin s' => match fin with | .done f => R (.ok f) s' | .again c' => c'.quiet = true ∧ okCode c' = true ∧ codeK M A c' R s') (fun e s' => R (.error e) s') s) : codeK M A c R s := fun Γ p hc hΓ k => by
  rw [wpCode_iff_wp, hc]
  refine Sem.wp_mono M Γ _ (fun fin p' s' h' => ?_) (fun _ _ _ h' => h') p s (h Γ p (hc ▸ hΓ.in) k)
  cases fin with
  | done f => exact h'
  | again c' => exact ⟨h'.1, h'.2.2 (Γ.goto c') p' rfl (hΓ.goto c') ⟨h'.2.1, k.2⟩⟩
theorem execsK_cons {st : Stmt} {rest : List Stmt} {env : Env} {Q : Flow → Shared → Prop} (h : wpK M A (exec st env) (fun f s' => match f with | .next => wpK M A (execs rest env) Q E s' | f => Q f s') E s) : wpK M A (execs (st :: rest) env) Q E s := fun Γ p hΓ k => by
  rw [execs_cons, Sem.wp_bind']
  refine Sem.wp_mono M Γ _ (fun f p' s' h' => ?_) (fun _ _ _ h' => h') _ _ (h Γ p hΓ k)
  cases f <;> first | exact h' Γ p' hΓ k | exact h'
theorem execsK_app {env : Env} {Q : Flow → Shared → Prop} {pre rest : List Stmt} (h : wpAny M A (execs pre env) (fun f s' => match f with | .next => wpK M A (execs rest env) Q E s' | f => Q f s') E s) : wpK M A (execs (pre ++ rest) env) Q E s := fun Γ p hΓ k => by
  have main : ∀ (pre : List Stmt) (p : Pos) (s : Shared), Sem.wp M Γ (execs pre env) (fun f _ s' => match f with | .next => wpK M A (execs rest env) Q E s' | f => Q f s') (fun e _ s' => E e s') p s → Sem.wp M Γ (execs (pre ++ rest) env) (fun f _ s' => Q f s') (fun e _ s' => E e s') p s := by
    intro pre
    induction pre with
    | nil => intro p s h; exact (show wpK M A (execs rest env) Q E s from h) Γ p hΓ k
    | cons st pre ih =>
      intro p s h
      rw [List.cons_append, execs_cons, Sem.wp_bind']
      rw [execs_cons, Sem.wp_bind'] at h
      refine Sem.wp_mono M Γ _ (fun f p' s' h' => ?_) (fun _ _ _ h' => h') _ _ h
      cases f <;> first | exact ih p' s' h' | exact h'
  exact main pre p s (h Γ p hΓ)
end
section
variable {prog : Program} {w : World} {A : Around} {s : Shared}
theorem funcK {body : List Stmt} {env : Env} {R : Result → Shared → Prop} (h : wpK (model prog w) (A.deeper env) (execs body env) (fun f s' => R (.ok (.ret (match f with | .ret v => v | _ => .none))) s')
      (fun e s' => wpAny (model prog w) (A.deeper env) (leaving env e) (fun _ s'' => R (.error e) s'') (fun e' s'' => R (.error e') s'') s') s) : codeK (model prog w) A (.func body env) R s := by
  refine codeK.tree ?_
  show wpK _ (A.deeper env) (do point; match ← (execs body env).onRaise (leaving env) with | .ret v => ret v | _ => ret .none) _ _ s
  refine .bind1 (wpAny_point (.bind (.onRaise (h.mono (fun f s' h' => ?_) fun _ _ h' => h'))))
  cases f <;> exact .of (wpAny_pure h')
theorem call_functionK {R : Result → Shared → Prop} {a : Addr} {args : Args} {o : Obj} {fd : FuncData} {body : List Stmt} (hroom : A.depth < recursionLimit) (ho : s.heap.get? a = some o) (hdata : o.data = .func fd)
    (hco : fd.scope.isCoroutine = false) (hgen : fd.scope.isGenerator = false) (hbody : fd.body = .stmts body) (hcd : s.heap.CodeRec fd.code fd.qualname) {binds : List (Str × Value)} (hbind : BindsTo s fd args binds)
    (h : wpAny (model prog w) A.in1 (newFunctionEnv fd.scope fd.globals fd.closure binds (fd.qualname ++ ".<locals>.") (some a) fd.code none fd.builtins)
        (fun env s₂ => s₂.heap.NoLimit ∧ codeK (model prog w) A (.func body env) R s₂) (fun e s' => R (.error e) s') s) : codeK (model prog w) A (.call (.ref a) args) R s := by
  refine codeK.tree ?_
  show wpK _ A.in1 (callAny (.ref a) args) _ _ s
  simp only [callAny]
  refine .bind1 (wpAny_load ho ?_)
  obtain ⟨c, oc, vs, tq, hc, hoc, hdc, hq⟩ := hcd
  simp only [hdata, callFunction, hco, hgen, hbody, hc]
  refine .bind1 (m := field (.ref c) 1) (wpAny_field hoc hdc hq (.bind1 (wpAny_pure ?_)))
  rw [hc] at h
  exact .bind1 (hbind _ _ _ _ (.bind1 (wpAny_mono h (fun env s₂ h₂ => .bind1 (wpAny_enterFrame h₂.1 hroom (.of (wpAny_pure ⟨rfl, rfl, h₂.2⟩)))) fun _ _ x => x)))
theorem call_defK {R : Result → Shared → Prop} {a : Addr} {o : Obj} {fd : FuncData} {body : List Stmt} {args : Args} {binds : List (Str × Value)}
    (hroom : A.depth < recursionLimit) (ho : s.heap.get? a = some o) (hdata : o.data = .func fd) (hlim : s.heap.NoLimit) (hcd : s.heap.CodeRec fd.code fd.qualname) (hbody : fd.body = .stmts body) (hbind : BindsTo s fd args binds)
    (hcell : ∀ x ∈ fd.scope.names, x.2 ≠ .cell) (hloc : ∀ x ∈ binds, fd.scope.names.lookup x.1 = some .local)
    (h : ∀ h₀, h₀.Ns s.heap.objs.size (fun x => binds.reverse.lookup x) → (∀ b o, s.heap.get? b = some o → h₀.get? b = some o) →
      wpK (model prog w) (A.deeper (callEnv fd s.heap.objs.size a)) (execs body (callEnv fd s.heap.objs.size a)) (fun f s' => R (.ok (.ret (match f with | .ret v => v | _ => .none))) s')
        (fun e s' => wpAny (model prog w) (A.deeper (callEnv fd s.heap.objs.size a)) (leaving (callEnv fd s.heap.objs.size a) e) (fun _ s'' => R (.error e) s'') (fun e' s'' => R (.error e') s'') s')
        { s with heap := h₀, toks := s.toks + binds.length })
    (hco : fd.scope.isCoroutine = false := by rfl) (hgen : fd.scope.isGenerator = false := by rfl) (hk : fd.scope.kind = .function := by rfl) :
    codeK (model prog w) A (.call (.ref a) args) R s :=
  call_functionK hroom ho hdata hco hgen hbody hcd hbind (wpAny_newFunctionEnv hcell hloc (fun h₀ hns₀ hsb₀ => ⟨hlim.fresh _ hsb₀, funcK (h h₀ hns₀ fun b o e => hsb₀.extBut b o (Nat.ne_of_lt (Heap.lt_size e)) (Heap.get?_push_of_some _ e))⟩) hk)
end
section
variable {M : Model} {A : Around} {E : Value → Shared → Prop} {s : Shared} {env : Env} {α : Type}
theorem wpK.holding {vs : List Value} {m : Sem α} {Q : α → Shared → Prop} (h : wpK M A m Q E s) : wpK M A (holding vs m) Q E s := fun Γ p hΓ k => by rw [Sem.wp_holding]; exact h Γ p hΓ k
theorem wpK.keep {vs : List Value} {m : Sem α} {Q : α → Shared → Prop} (h : wpK M A m Q E s) : wpK M A (Sem.keep vs m) Q E s := fun Γ p hΓ k => by rw [Sem.wp_keep]; exact h Γ p hΓ k
theorem assignK {x : Str} {pos' : Pos} {value : PySem.Expr} {pos : Pos} {Q : Flow → Shared → Prop}
    (h : wpK M A (eval value env) (fun v s₁ => wpAny M A (storeName env x v) (fun _ => Q .next) E s₁) E s)
    (hs : swapsWith value (some (.Name x pos')) pos.line env = pure false := by rfl) : wpK M A (exec (.Assign [.Name x pos'] value pos) env) Q E s := fun Γ p hΓ k => by
  simp only [exec_Assign_Name env x pos' value pos hs, Sem.wp_bind', Sem.wp_cmd_standAt, Sem.wp_bindName, Sem.wp_pure']
  exact Sem.wp_mono M Γ _ (fun v _ s₁ h₁ => h₁ Γ _ hΓ) (fun _ _ _ h' => h') _ _ (h Γ _ hΓ k)
theorem evalCallK {func : PySem.Expr} {args : List PySem.Expr} {pos : Pos} {Q : Value → Shared → Prop}
    (h : wpAny M A (eval func env) (fun f s₁ => wpK M A (callWith pos f [] (backTo pos (starEach args env)) []) Q E s₁) E s)
    (he : eval (.Call func args [] pos) env = (do callWith pos (← eval func env) [] (backTo pos (starEach args env)) (backToKw pos (keywordEach [] env))) := by rfl) : wpK M A (eval (.Call func args [] pos) env) Q E s := by
  rw [he]; exact .bind1 h
theorem callWithK_of {pos : Pos} {f : Value} {first : List Value} {Q : Value → Shared → Prop} {P : Heap → Prop} {args : List (Bool × Sem Value)} {keywords : List (Option Str × Sem Value)} (hplain : (args.any (·.1) || keywords.any (·.1.isNone)) = false)
    (hk : ∀ h, P h → ∃ k, (k = Keeper.frame ∨ k = Keeper.machine ∨ k = Keeper.boundFrame) ∧ Looks M h (keeperOf f) k)
    (h : wpAny M A (evalArgs f true args keywords) (fun a s₁ => P s₁.heap ∧ wpK M A (call f (first ++ a.pos) a.kw) Q E s₁) E s) : wpK M A (callWith pos f first args keywords) Q E s := by
  unfold callWith
  refine .bind1 (wpAny_holding (wpAny_mono h (fun a s₁ h₁ => .bind1 (wpAny_standAt ?_)) fun _ _ x => x))
  obtain ⟨k, hk', L⟩ := hk _ h₁.1
  simp only [hplain]
  refine .bind1 (L.here ?_)
  have tail : ∀ {t : Sem Value}, wpK M A t Q E s₁ → wpK M A (t >>= fun r => PySem.holding [r] point >>= fun _ => pure r) Q E s₁ :=
    fun ht => .bind2 (ht.mono (fun r s₂ hr => wpAny_bind (wpAny_holding (wpAny_point (wpAny_pure hr)))) fun _ _ x => x)
  have marked (mk : Value) : wpK M A (callMarked mk f (first ++ a.pos) a.kw) Q E s₁ := by unfold callMarked; exact .keep h₁.2
  rcases hk' with rfl | rfl | rfl <;> dsimp only <;> first | exact tail h₁.2 | (split <;> first | exact tail h₁.2 | exact tail (marked _))
theorem callWithK {K : Frag} {pos : Pos} {f : Value} {first : List Value} {Q : Value → Shared → Prop} {e : PySem.Expr} {rest : List PySem.Expr} (hk : keepIn K f = true) (h : wpAny M A (spliced (backTo pos (starEach (e :: rest) env))) (fun vs s₁ => K.In s₁.heap ∧ wpK M A (call f (first ++ vs)) Q E s₁) E s)
    (he : starEach (e :: rest) env = (false, eval e env) :: starEach rest env := by rfl) (hplain : (backTo pos (starEach rest env)).any (·.1) = false := by rfl) :
    wpK M A (callWith pos f first (backTo pos (starEach (e :: rest) env)) []) Q E s := by
  rw [he] at h ⊢
  exact callWithK_of (by show ((false || (backTo pos (starEach rest env)).any (·.1)) || false) = false; rw [hplain]; rfl) (keeps_K hk) (evalArgs_plain h)
end
end
section
set_option maxRecDepth 100000
set_option maxHeartbeats 4000000
open PySem PySem.W PyProof.Rows PySem.Spec PySem.Calls
theorem ba_mro : mroOf (.type "bytearray") = pure [.type "bytearray", .type "object"] := by rw [mroOf_type]; kernel_rfl
theorem ba_lookup_new : typeLookup (.type "bytearray") "__new__" = pure (some (.builtin "bytearray.__new__")) := by rw [typeLookup_type, builtinLookup_eq_fast]; kernel_rfl
theorem ba_slot_init : Slot "bytearray" "__init__" "bytearray.__init__" :=
  .of (owner := "bytearray") (n := "__init__") (by rw [typeLookup_type, builtinLookup_eq_fast]; kernel_rfl) (by decide +kernel) (by decide +kernel) (by decide +kernel)
    (by first | exact .inl (by decide +kernel) | exact .inr (by decide +kernel)) (by rw [isSubtype_type]; kernel_rfl)
theorem ba_called : TypeCalled "bytearray" "bytearray.__new__" "bytearray.__init__" :=
  ⟨by decide +kernel, by decide +kernel, ⟨_, _, ba_mro⟩, madeBy_type ba_mro ba_lookup_new (by decide +kernel), by decide +kernel, by rw [isSubtype_type]; kernel_rfl, ba_slot_init⟩
theorem ba_typeCall (a : Value) : checkTypeCall "bytearray" ⟨[a], []⟩ = pure () := by kernel_rfl
theorem ba_newCall (a : Value) : checkBuiltinCall "bytearray.__new__" ⟨[.type "bytearray", a], []⟩ = pure () := by kernel_rfl
theorem ba_plain_new : plainId "bytearray.__new__" = true := by decide +kernel
theorem ba_entry_new : entryFor table "bytearray.__new__" = some Builtin.«list.__new__» := entryFor_alias (id' := "list.__new__") (by kernel_rfl) (by first | rfl | decide +kernel) (by decide +kernel) (by kernel_rfl)
theorem ba_entry_init : entryFor table "bytearray.__init__" = some Builtin.«bytearray.__init__» := by first | exact entryFor_of_fast (by kernel_rfl) | exact entryFor_of_tree (by kernel_rfl)
theorem ba_sub : isSubtype (.type "bytearray") (.type "bytearray") = pure true := by rw [isSubtype_type]; kernel_rfl
set_option maxRecDepth 1000000 in
theorem ba_owner_new : ("bytearray.__new__".splitOn ".__new__").headD "" = "bytearray" := by simp +decide [String.splitOn, String.splitOnAux]
theorem ba_release : typeLookup (.type "bytearray") "__release_buffer__" = pure (some (.builtin "bytearray.__release_buffer__")) := by rw [typeLookup_type, builtinLookup_eq_fast]; kernel_rfl
theorem ba_bind (v : Value) : Builtin.Bytes.bindOptional "bytearray.__init__" "bytearray" ["source", "encoding", "errors"] [v] [] = pure [some v, none, none] := by kernel_rfl
theorem ba_write {S : Addr} {a : Array UInt8} {f : Array UInt8 → Array UInt8} {Q : Unit → Shared → Prop} (hS : s.heap.get? S = some { cls := .type "bytearray", data := .bytearray a }) (hz : (f a).size ≤ sizeLine)
    (h : ∀ h', h'.get? S = some { cls := .type "bytearray", data := .bytearray (f a) } → Heap.SameBut S s.heap h' → Q () { s with heap := h' }) : wpAny (model prog w) A (updateBytearray S f) Q E s := by
  unfold updateBytearray
  refine wpAny_bind (wpAny_load hS ?_)
  show wpAny _ _ (update S (Obj.mapBytearray f) >>= fun _ => lookBehind S) _ _ _
  refine wpAny_bind (wpAny_update hS ?_)
  have hS₂ : (s.heap.update S (Obj.mapBytearray f)).get? S = some { cls := .type "bytearray", data := .bytearray (f a) } := Heap.get?_update_self (Obj.mapBytearray f) hS rfl
  refine wpAny_lookBehind hS₂ ?_ (h _ hS₂ (Heap.SameBut.update ..))
  show (if (f a).size > sizeLine then some "bytearray:memory" else none) = none
  rw [if_neg (by omega)]
theorem ba_initCall (a b : Value) : argsOk "bytearray.__init__" ⟨[a, b], []⟩ := by unfold argsOk; kernel_rfl
section
variable {prog : Program} {w : World} {A : Around} {E : Value → Shared → Prop} {s : Shared}
theorem ba_code_new (a : Value) {Q₁ : Value → Shared → Prop}
    (h : Q₁ (.ref s.heap.objs.size) { s with heap := s.heap.push { cls := .type "bytearray", data := .bytearray #[] } }) :
    codeAny (model prog w) A (.call (.builtin "bytearray.__new__") ⟨[.type "bytearray", a], []⟩) (wants Q₁ E) s := by
  refine codeAny_of_tree ?_
  show wpAny _ A.in1 (do checkBuiltinCall "bytearray.__new__" ⟨[.type "bytearray", a], []⟩; again (.builtin "bytearray.__new__" ⟨[.type "bytearray", a], []⟩)) _ _ s
  refine wpAny_bind (wpAny_of_eq (ba_newCall a) (wpAny_pure ⟨plainId_quiet ba_plain_new _, codeAny_builtin_stack ba_entry_new rfl fun p st => ?_⟩))
  rw [Around.under_plainId ba_plain_new _]
  have hsub := ba_sub
  have hown := ba_owner_new
  obtain ⟨hp, g, d, tk, os⟩ := s
  simp only [hown]
  wp_walk
  exact h
theorem ba_ends : ("bytearray.__release_buffer__".endsWith ("." ++ "__release_buffer__")) = true := by decide +kernel
theorem ba_drop : "bytearray.__release_buffer__".dropRight ("__release_buffer__".length + 1) = "bytearray" := by decide +kernel
theorem exported_not {self : Value} {c : Code} (h : okCode c = true) (p : Pos) : (match (c, p) with
    | (.builtin "bytearray.__contains__" ⟨v :: _, _⟩, _) | (.builtin "bytearray.__mod__" ⟨v :: _, _⟩, _)
    | (.builtin "bytearray.__rmod__" ⟨_ :: v :: _, _⟩, _) | (.builtin "_struct.pack_into.held" ⟨v :: _, _⟩, _) => Builtin.Bytes.sameRef v self
    | (.builtin "bytearray.find.held" ⟨_ :: _ :: held, _⟩, _) => held.any (Builtin.Bytes.sameRef self)
    | (.builtin id ⟨v :: _, _⟩, _) => Builtin.Bytes.sameRef v self && Builtin.Bytes.decodersThatHold.contains id
    | _ => false) = false := by
  delta exported_not.match_1
  dsimp only
  cases c with
  | builtin id a =>
    obtain ⟨l, kw⟩ := a
    have ne : ∀ z, holdIds.contains z = true → id ≠ z := fun z hz e => by subst e; exact absurd h (by show ¬ (!(holdIds.contains id)) = true; rw [hz]; decide)
    have n1 := ne "bytearray.__contains__" (by decide +kernel)
    have n2 := ne "bytearray.__mod__" (by decide +kernel)
    have n3 := ne "bytearray.__rmod__" (by decide +kernel)
    have n4 := ne "_struct.pack_into.held" (by decide +kernel)
    have n5 := ne "bytearray.find.held" (by decide +kernel)
    simp only [n1, n2, n3, n4, n5, dif_neg, not_false_eq_true]
    cases l with
    | nil => rfl
    | cons v r =>
      show (Builtin.Bytes.sameRef v self && Builtin.Bytes.decodersThatHold.contains id) = false
      have h' : (!(holdIds.contains id)) = true := h
      have : Builtin.Bytes.decodersThatHold.contains id = false := by
        simp only [holdIds, List.contains_cons, Bool.not_eq_true', Bool.or_eq_false_iff] at h'
        exact h'.2.2.2.2.2
      rw [this, Bool.and_false]
  | _ => rfl
theorem exportedK {self : Value} {Q : Bool → Shared → Prop} (h : Q false s) : wpK (model prog w) A (Builtin.Bytes.exported self) Q E s := by
  unfold Builtin.Bytes.exported
  refine .bind (.stack fun st hst => .of (wpAny_pure ?_))
  have : ∀ f : Code × Pos → Bool, (∀ c p, okCode c = true → f (c, p) = false) → st.any f = false := fun f hf => by
    rw [List.any_eq_false]
    intro x hx
    rw [hf x.1 x.2 (hst x hx)]
    decide
  rw [this _ fun c p h => exported_not h p]
  exact h
theorem ba_ownRelease {S : Addr} {o : Obj} {Q : Bool → Shared → Prop} (hS : s.heap.get? S = some o) (hc : o.cls = .type "bytearray") (h : Q false s) : wpAny (model prog w) A (Builtin.Bytes.ownRelease (.ref S)) Q E s := by
  have hT : s.TypeIs (.ref S) "bytearray" := ⟨o, hS, hc⟩
  unfold Builtin.Bytes.ownRelease Builtin.Bytes.slotIsOwn
  refine wpAny_bind (wpAny_bind (wpAny_specialOf hT ba_release ?_))
  dsimp only
  refine bm_if_false (by rw [ba_ends]; rfl) ?_
  rw [ba_drop]
  exact wpAny_isInstance hT ba_sub (wpAny_pure h)
theorem wpK.ifF {α : Type} {M : Model} {c : Bool} {a b : Sem α} {Q : α → Shared → Prop} (hc : c = false) (h : wpK M A b Q E s) : wpK M A (if c = true then a else b) Q E s := by subst hc; exact h
theorem wpK.ifT {α : Type} {M : Model} {c : Bool} {a b : Sem α} {Q : α → Shared → Prop} (hc : c = true) (h : wpK M A a Q E s) : wpK M A (if c = true then a else b) Q E s := by subst hc; exact h
theorem ba_init {S : Addr} {n : Int} {t : Tok} {Q : PySem.Fin → Shared → Prop} (hS : s.heap.get? S = some { cls := .type "bytearray", data := .bytearray #[] }) (h0 : 0 < n) (h1 : n ≤ 1000)
    (hQ : ∀ h' k, h'.get? S = some { cls := .type "bytearray", data := .bytearray (Array.replicate n.toNat 0) } → (∀ b o, b ≠ S → s.heap.get? b = some o → h'.get? b = some o) → Q (.done (.ret .none)) { s with heap := h', toks := k }) :
    wpK (model prog w) A (Builtin.«bytearray.__init__» ⟨[.ref S, .int n t], []⟩) Q E s := by
  unfold Builtin.«bytearray.__init__»
  dsimp only
  refine .bind1 (ba_ownRelease hS rfl ?_)
  refine .ifF rfl ?_
  refine .bind1 (wpAny_of_eq (ba_bind _) ?_)
  dsimp only
  refine .bind1 (wpAny_of_eq (a := ()) rfl ?_)
  refine .bind1 (wpAny_of_eq (a := ()) rfl ?_)
  refine .bind (.bind (exportedK ?_))
  show wpK _ _ (Builtin.Bytes.exportsOf (.ref S) >>= fun k => pure (decide (k > 0))) _ _ _
  refine .bind1 (wpAny_bind (m := load S) (wpAny_load hS (wpAny_pure (wpK.of (wpAny_pure ?_)))))
  refine .ifF rfl ?_
  refine .of ?_
  refine wpAny_bind (ba_write hS (Nat.zero_le _) fun h₁ g₁ k₁ => ?_)
  refine wpAny_bind (wpAny_of_eq (a := none) rfl ?_)
  refine bm_if_false rfl ?_
  refine wpAny_bind (bm_if_false rfl (bm_if_false rfl (wpAny_pure ?_)))
  have hT : ∀ s : Shared, s.TypeIs (.int n t) "int" := fun _ => rfl
  have hix : typeLookup (.type "int") "__index__" = pure (some (.builtin "int.__index__")) := by rw [typeLookup_type, builtinLookup_eq_fast]; kernel_rfl
  refine wpAny_bind (wpAny_specialOf (hT _) hix ?_)
  refine bm_if_true rfl ?_
  refine wpAny_bind (wpAny_attempt (wpAny_of_eq (a := n) rfl ?_))
  dsimp only
  refine bm_if_false (by simp only [Builtin.Bytes.fitsIndex, Bool.not_eq_false', Bool.and_eq_true, decide_eq_true_eq]; omega) ?_
  refine wpAny_ite ?_
  rw [if_neg (by omega)]
  refine bm_if_false (by simp; omega) ?_
  refine bm_if_false (by simp only [Builtin.Bytes.tooLong, decide_eq_false_iff_not, sizeLine_eq]; omega) ?_
  refine wpAny_bind (wpAny_rule ?_)
  refine wpAny_ite ?_
  rw [if_pos (by omega)]
  refine wpAny_bind (ba_write g₁ (by rw [Array.size_replicate, sizeLine_eq]; omega) fun h₂ g₂ k₂ => ?_)
  exact wpAny_pure (hQ h₂ _ g₂ fun b o hb e => k₂.extBut b o hb (k₁.extBut b o hb e))
theorem builtinK {R : Result → Shared → Prop} {id : String} {args : Args} {b : Builtin} (hb : entryFor table id = some b)
    (h : wpK (model prog w) (A.under (.builtin id args)) (b args)
      (fun fin s' => match fin with | .done f => R (.ok f) s' | .again c' => c'.quiet = true ∧ okCode c' = true ∧ codeK (model prog w) A c' R s') (fun e s' => R (.error e) s') s) :
    codeK (model prog w) A (.builtin id args) R s := by
  refine codeK.tree ?_
  show wpK _ _ (match entryFor table id with | some b => b args | none => unsupported ((withoutEnding? id "#data").getD id)) _ _ s
  rw [hb]; exact h
theorem ok_typeCall (a : Args) : okCode (.builtin "type.__call__" a) = true := by show (!(holdIds.contains "type.__call__")) = true; decide +kernel
theorem ok_init (a : Args) : okCode (.builtin "bytearray.__init__" a) = true := by show (!(holdIds.contains "bytearray.__init__")) = true; decide +kernel
theorem ba_callK {n : Int} {t : Tok} {Q : Value → Shared → Prop} (h0 : 0 < n) (h1 : n ≤ 1000)
    (hQ : ∀ h' k, h'.get? s.heap.objs.size = some { cls := .type "bytearray", data := .bytearray (Array.replicate n.toNat 0) } → (∀ b o, s.heap.get? b = some o → h'.get? b = some o) → Q (.ref s.heap.objs.size) { s with heap := h', toks := k }) :
    wpK (model prog w) A (call (.type "bytearray") [.int n t]) Q E s := by
  refine .call (codeK.tree ?_)
  show wpK _ _ (callAny (.type "bytearray") _) _ _ _
  refine .of (wpAny_pure ⟨Code.quiet_builtin _ (by decide +kernel), ok_typeCall _, builtinK F.entry_type_call ?_⟩)
  rw [Around.under_plain (weight_type_call_type "bytearray" [.int n t] []) rfl]
  unfold Builtin.«type.__call__»
  dsimp only
  refine .ifF ba_called.notType ?_
  refine .ifF ba_called.canCreate ?_
  refine .bind1 (wpAny_of_eq (ba_typeCall _) ?_)
  refine .bind1 (wpAny_of_eq ba_mro ?_)
  refine .ifF rfl ?_
  refine .bind1 (wpAny_of_eq ba_called.made ?_)
  dsimp only
  refine .bind1 (wpAny_pure ?_)
  refine .bind1 (wpAny_holding (wpAny_call (codeAny_mono (ba_code_new (Q₁ := fun r s₁ => r = .ref s.heap.objs.size ∧ s₁ = { s with heap := s.heap.push { cls := .type "bytearray", data := .bytearray #[] } }) (E := E) (.int n t) ⟨rfl, rfl⟩) fun r s₁ hr => ?_)))
  cases r with
  | error e => exact hr
  | ok fl =>
    cases fl with
    | ret obj =>
      obtain ⟨rfl, rfl⟩ := hr
      have hS : (s.heap.push { cls := .type "bytearray", data := .bytearray #[] }).get? s.heap.objs.size = some { cls := .type "bytearray", data := .bytearray #[] } := Heap.get?_push_size _ rfl
      have hT : (Shared.TypeIs { s with heap := s.heap.push { cls := .type "bytearray", data := .bytearray #[] } } (.ref s.heap.objs.size) "bytearray") := ⟨_, hS, rfl⟩
      dsimp only
      refine .bind1 (wpAny_isInstance hT ba_sub ?_)
      refine .ifF rfl ?_
      refine .bind (.holding ?_)
      unfold callSpecial?
      refine .bind1 (wpAny_specialOf hT ba_slot_init.lookup ?_)
      dsimp only
      refine .holding (.bind1 (wpAny_of_eq (ba_slot_init.bind _) ?_))
      dsimp only
      refine .bind (.call (.tree ?_))
      show wpK _ A.in1.in1 (do checkBuiltinCall "bytearray.__init__" ⟨[.ref s.heap.objs.size, .int n t], []⟩; again (.builtin "bytearray.__init__" ⟨[.ref s.heap.objs.size, .int n t], []⟩)) _ _ _
      refine .bind1 (ba_slot_init.check _ _ _ _ _ _ _ _ hT (ba_initCall _ _) (.of (wpAny_pure ⟨plainId_quiet ba_slot_init.plain _, ok_init _, builtinK ba_entry_init ?_⟩)))
      rw [Around.under_plainId ba_slot_init.plain _]
      refine ba_init hS h0 h1 fun h' k g₁ g₂ => ?_
      refine .of (wpAny_pure ?_)
      dsimp only
      refine .of (bm_if_false (by decide) (wpAny_pure ?_))
      exact hQ h' k g₁ fun b o e => g₂ b o (Nat.ne_of_lt (Heap.lt_size e)) (Heap.get?_push_of_some _ e)
    | _ => exact hr.elim
theorem ba_slot_set : Slot "bytearray" "__setitem__" "bytearray.__setitem__" :=
  .of (owner := "bytearray") (n := "__setitem__") (by rw [typeLookup_type, builtinLookup_eq_fast]; kernel_rfl) (by decide +kernel) (by decide +kernel) (by decide +kernel)
    (by first | exact .inl (by decide +kernel) | exact .inr (by decide +kernel)) (by rw [isSubtype_type]; kernel_rfl)
theorem ba_entry_set : entryFor table "bytearray.__setitem__" = some Builtin.«bytearray.__setitem__» := by first | exact entryFor_of_fast (by kernel_rfl) | exact entryFor_of_tree (by kernel_rfl)
theorem ba_args_set (a b c : Value) : argsOk "bytearray.__setitem__" ⟨[a, b, c], []⟩ := by unfold argsOk; kernel_rfl
theorem ba_subscript {k : Int} {t : Tok} {Q : Option Int → Shared → Prop} (h0 : 0 ≤ k) (h1 : k ≤ 1000) (h : Q (some k) s) : wpAny (model prog w) A (Builtin.Bytes.subscript? (.int k t)) Q E s := by
  have hix : typeLookup (.type "int") "__index__" = pure (some (.builtin "int.__index__")) := by rw [typeLookup_type, builtinLookup_eq_fast]; kernel_rfl
  unfold Builtin.Bytes.subscript?
  refine wpAny_bind (wpAny_specialOf (show s.TypeIs (.int k t) "int" from rfl) hix ?_)
  refine bm_if_false rfl ?_
  refine wpAny_bind (wpAny_of_eq (a := k) rfl ?_)
  refine bm_if_false (by simp only [Builtin.Bytes.fitsIndex, Bool.not_eq_false', Bool.and_eq_true, decide_eq_true_eq]; omega) ?_
  exact wpAny_pure h
theorem ba_payload {S : Addr} {a : Array UInt8} {Q : Array UInt8 → Shared → Prop} (hS : s.heap.get? S = some { cls := .type "bytearray", data := .bytearray a }) (h : Q a s) : wpAny (model prog w) A (Builtin.Bytes.payload (.ref S)) Q E s := by
  refine wpAny_bind ?_
  unfold Builtin.Bytes.payload?
  refine wpAny_bind (wpAny_load hS ?_)
  exact wpAny_pure (wpAny_pure h)
theorem ba_byte {v : Int} {u : Tok} {Q : UInt8 → Shared → Prop} (v0 : 0 ≤ v) (v1 : v < 256) (h : Q v.toNat.toUInt8 s) : wpAny (model prog w) A (Builtin.Bytes.byteValue (.int v u)) Q E s := by
  unfold Builtin.Bytes.byteValue
  refine wpAny_bind (wpAny_of_eq (a := v) rfl ?_)
  refine bm_if_false (by simp only [Bool.or_eq_false_iff, decide_eq_false_iff_not]; omega) ?_
  exact wpAny_pure h
theorem ba_setItem {S : Addr} {a : Array UInt8} {k v : Int} {t u : Tok} {Q : Unit → Shared → Prop} (hS : s.heap.get? S = some { cls := .type "bytearray", data := .bytearray a }) (h0 : 0 ≤ k) (h1 : k < a.size) (hz : a.size ≤ 1000) (v0 : 0 ≤ v) (v1 : v < 256)
    (hQ : ∀ h', h'.get? S = some { cls := .type "bytearray", data := .bytearray (a.setIfInBounds k.toNat v.toNat.toUInt8) } → Heap.SameBut S s.heap h' → Q () { s with heap := h' }) :
    wpAny (model prog w) A (setItem (.ref S) (.int k t) (.int v u)) Q E s := by
  have hT : s.TypeIs (.ref S) "bytearray" := ⟨_, hS, rfl⟩
  unfold setItem
  try with_reducible refine wpAny_holding ?_
  first | refine wpAny_bind (wpAny_pure ?_) | skip
  refine wpAny_bind (wpAny_sequenceKey hT (by decide) ?_)
  refine wpAny_bind (wpAny_callSpecial?_slot (name := Str.ofString "__setitem__") hT ba_slot_set
    (wpAny_call_entry ba_slot_set hT ba_entry_set ?_ (ba_args_set _ _ _)))
  unfold Builtin.«bytearray.__setitem__»
  dsimp only
  refine bm_if_false rfl ?_
  refine wpAny_bind (ba_subscript h0 (by omega) ?_)
  dsimp only
  refine wpAny_bind (ba_byte v0 v1 ?_)
  refine wpAny_bind (ba_payload hS ?_)
  rw [seqIndex_of h0 h1]
  dsimp only
  refine wpAny_bind (ba_write hS (by rw [Array.size_setIfInBounds, sizeLine_eq]; omega) fun h' g₁ g₂ => ?_)
  first
    | exact wpAny_pure ⟨.none, rfl, wpAny_pure (hQ _ g₁ g₂)⟩
    | exact wpAny_bind (wpAny_pure (wpAny_pure ⟨.none, rfl, wpAny_pure (hQ _ g₁ g₂)⟩))
theorem ba_no_bytes : typeLookup (.type "bytearray") "__bytes__" = pure none := by rw [typeLookup_type, builtinLookup_eq_fast]; kernel_rfl
theorem ba_no_index : typeLookup (.type "bytearray") "__index__" = pure none := by rw [typeLookup_type, builtinLookup_eq_fast]; kernel_rfl
theorem ba_buffer : typeLookup (.type "bytearray") "__buffer__" = pure (some (.builtin "bytearray.__buffer__")) := by rw [typeLookup_type, builtinLookup_eq_fast]; kernel_rfl
theorem ba_ends2 : ("bytearray.__buffer__".endsWith ("." ++ "__buffer__")) = true := by decide +kernel
theorem ba_drop2 : "bytearray.__buffer__".dropRight ("__buffer__".length + 1) = "bytearray" := by decide +kernel
theorem ba_bufferOf {S : Addr} {a : Array UInt8} {id : String} {Q : Option (Array UInt8) → Shared → Prop} (hS : s.heap.get? S = some { cls := .type "bytearray", data := .bytearray a }) (h : Q (some a) s) : wpAny (model prog w) A (Builtin.Bytes.buffer? id (.ref S) true) Q E s := by
  have hT : s.TypeIs (.ref S) "bytearray" := ⟨_, hS, rfl⟩
  unfold Builtin.Bytes.buffer?
  refine wpAny_bind (wpAny_specialOf hT ba_buffer ?_)
  dsimp only
  refine wpAny_bind ?_
  unfold Builtin.Bytes.slotIsOwn
  refine wpAny_bind (wpAny_specialOf hT ba_buffer ?_)
  dsimp only
  refine bm_if_false (by rw [ba_ends2]; rfl) ?_
  rw [ba_drop2]
  refine wpAny_isInstance hT ba_sub ?_
  refine bm_if_false rfl ?_
  refine wpAny_bind (wpAny_specialOf hT ba_buffer ?_)
  (try dsimp only)
  refine wpAny_bind (ba_ownRelease hS rfl ?_)
  refine bm_if_false rfl ?_
  exact wpAny_bind (ba_payload hS (wpAny_pure h))
theorem by_new {S : Addr} {a : Array UInt8} {Q : Value → Shared → Prop} (hS : s.heap.get? S = some { cls := .type "bytearray", data := .bytearray a }) (hz : a.size ≤ sizeLine)
    (hQ : ∀ t k, Q (.bytes a t) { s with toks := k }) :
    codeAny (model prog w) A (.call (.builtin "bytes.__new__") ⟨[.type "bytes", .ref S], []⟩) (wants Q E) s := by
  refine codeAny_of_tree ?_
  show wpAny _ A.in1 (do checkBuiltinCall "bytes.__new__" ⟨[.type "bytes", .ref S], []⟩; again (.builtin "bytes.__new__" ⟨[.type "bytes", .ref S], []⟩)) _ _ s
  refine wpAny_bind (wpAny_of_eq (F.bm_newCall _) (wpAny_pure ⟨plainId_quiet F.bm_plain _, codeAny_builtin F.bm_entry ?_⟩))
  rw [Around.under_plainId F.bm_plain _]
  have hT : s.TypeIs (.ref S) "bytearray" := ⟨_, hS, rfl⟩
  unfold Builtin.«bytes.__new__»
  refine wpAny_bind (wpAny_of_eq (a := true) rfl ?_)
  refine bm_if_false rfl ?_
  refine wpAny_bind (wpAny_of_eq F.bm_sub ?_)
  refine bm_if_false rfl ?_
  refine wpAny_bind (wpAny_of_eq (F.bm_bind _) ?_)
  refine wpAny_bind (wpAny_of_eq (a := ()) rfl ?_)
  refine wpAny_bind (wpAny_of_eq (a := ()) rfl ?_)
  refine bm_if_false rfl ?_
  refine wpAny_bind (wpAny_specialOf hT ba_no_bytes ?_)
  dsimp only
  refine wpAny_bind (wpAny_bind ?_)
  show wpAny _ _ (load S >>= _) _ _ _
  refine wpAny_bind (wpAny_load hS ?_)
  refine wpAny_pure (wpAny_pure ?_)
  refine bm_if_false rfl ?_
  refine wpAny_bind (wpAny_specialOf hT ba_no_index ?_)
  refine bm_if_true rfl ?_
  first
    | show wpAny _ _ (Builtin.Bytes.buffer? "bytes.__new__" (.ref S) true >>= _) _ _ _
    | (refine wpAny_bind ?_; show wpAny _ _ (Builtin.Bytes.buffer? "bytes.__new__" (.ref S) true >>= _) _ _ _)
  refine wpAny_bind (ba_bufferOf hS ?_)
  refine wpAny_bind (wpAny_rule ?_)
  refine wpAny_bind (wpAny_mkBytes ?_ hz)
  first
    | exact wpAny_pure (hQ _ _)
    | exact wpAny_bind (wpAny_pure (wpAny_pure (hQ _ _)))
    | exact wpAny_bind (wpAny_pure (hQ _ _))
theorem by_call {S : Addr} {a : Array UInt8} {Q : Value → Shared → Prop} (hS : s.heap.get? S = some { cls := .type "bytearray", data := .bytearray a }) (hz : a.size ≤ sizeLine)
    (hQ : ∀ t k, Q (.bytes a t) { s with toks := k }) : wpAny (model prog w) A (call (.type "bytes") [.ref S]) Q E s := by
  refine callType_codes (Q₁ := fun obj s₁ => s₁.TypeIs obj "bytes" ∧ Q obj s₁) F.bm_called (F.bm_typeCall _) F.entry_object_init
    (by_new hS hz fun t k => ⟨PySem.W.typeIs_bytes _ _ _, hQ t k⟩) fun obj s₁ h₁ => ?_
  exact ⟨h₁.1, F.args_object_init_2 obj _, object_init_meets F.bm_called.init.lookup F.bm_called.made (by decide) prog w A.in1 _ s₁ ⟨h₁.1, rfl, h₁.2⟩⟩
end
end
section
set_option maxRecDepth 100000
set_option maxHeartbeats 8000000
open PySem PySem.W PyProof.Rows PySem.Spec PySem.Calls
noncomputable def ConK (w : World) (d : Nat) (f : Addr) (vs : List Value) (M I : Led) (P : Value → Led → Prop) : Prop :=
  ∀ (rest : Led) (loose : List Str) (mean : ExcName → Option Value) (mg mb : Str → Option Value) (dp un : Nat) (gd : Option (List Code)) (cn : Str) (cs : Scope) (a : Addr) (ccd : Value) (cl : List (Str × Addr)) (outer : List Env) (A₀ : Around) (base h₀ : Heap) (L : Addr) (m : Str → Option Value) (s : Shared) (Q E : Value → Shared → Prop),
    Below A₀ base outer h₀ → Fr h₀ L s.heap m → (K9 w.params).In h₀ → News h₀ L s.heap (M ++ rest) → (∀ p ∈ I, p ∈ rest) → (∀ p ∈ M, ∀ q ∈ rest, q.1 ≠ p.1) → Top topProg loose mean mg mb h₀ → cs.kind = .function → dp + d < recursionLimit → un + 12 * d < cLine →
    (∀ r A' h' tk', Fr h₀ L h' m → News h₀ L h' (A' ++ rest) → (∀ p ∈ A', AptL p.1 rest) → P r A' → Q r { s with heap := h', toks := tk' }) →
    wpK (model PP w) (ktrTop dp un gd cn cs L a ccd cl outer) (call (.ref f) vs) Q E s
theorem conK_plain {w : World} {d : Nat} {f : Addr} {vs : List Value} {M I : Led} {P : Value → Led → Prop} {name qual : Str} {params : Arguments} {body : List Stmt} {scope : Scope} {dV kV doc pm cdv ct oc : Value} {an od : Option Addr} {osl : Array (Option Value)} {binds : List (Str × Value)} {fd : FuncData}
    (ho : (K9 w.params).lookup f = some ⟨oc, od, .func fd, osl⟩) (hfd : fd = fnOf name qual params body scope dV kV doc pm an cdv ct) (hcd : codeIn (K9 w.params) cdv qual = true)
    (hbind : bindArgs (fnOf name qual params body scope dV kV doc pm an cdv ct) ⟨vs, []⟩ = pure binds) (hloc : ∀ y ∈ binds, scope.names.lookup y.1 = some .local)
    (hco : scope.isCoroutine = false) (hgen : scope.isGenerator = false) (hk : scope.kind = .function) (hcell : ∀ x ∈ scope.names, x.2 ≠ .cell)
    (h : ∀ (loose : List Str) (mean : ExcName → Option Value) (mg mb : Str → Option Value) (dp un : Nat) (gd : Option (List Code)) (outer : List Env) (A₀ : Around) (base g : Heap) (L : Addr) (h₁ : Heap) (s₀ : Shared) (tk : Nat) (Q₀ : Flow → Shared → Prop), (∀ v s', Ret g s₀ I P v s' → Q₀ (.ret v) s') → (∀ s', Ret g s₀ I P .none s' → Q₀ .next s') →
      Below A₀ base outer g → Fr g L h₁ (fun y => binds.reverse.lookup y) → (K9 w.params).In g → News g L h₁ (M ++ I) → Top topProg loose mean mg mb g → dp + d < recursionLimit → un + 12 * d + 9 < cLine →
      wpK (model PP w) (ktrTop dp un gd qual scope L f cdv [] outer) (execs body (envX qual scope L f cdv [])) Q₀ (fun _ _ => False) { s₀ with heap := h₁, toks := tk }) :
    ConK w (d + 1) f vs M I P := by
  subst hfd
  intro rest loose mean mg mb dp un gd cn cs a ccd cl outer A₀ base h₀ L m s Q E B F X N hI hM T hkc hd hu ret
  obtain ⟨NI, BG, st, lv⟩ := hide_facts (Ar := ktrTop dp un gd cn cs L a ccd cl outer) (env := envX cn cs L a ccd cl) B F N hI hM rfl rfl hkc ret
  refine wpK.call (call_defK (fd := fnOf name qual params body scope dV kV doc pm an cdv ct) (body := body) (binds := binds) (by show dp < _; omega) ((X.keeps F.keep) _ _ ho) rfl (T.nolimit.keeps F.keep) (codeRec_of (X.keeps F.keep) hcd) rfl (BindsTo.of_eq hbind) hcell hloc (fun h₁ hns hk₁ => ?_) hco hgen hk)
  exact (h loose mean mg mb (dp + 1) (un + 3) gd (envX cn cs L a ccd cl :: outer) _ base _ s.heap.objs.size h₁ s _ (fun fl s' => Ret _ s I P (match fl with | .ret v => v | _ => .none) s') (fun _ _ x => x) (fun _ x => x) BG ⟨hns, fun b o e => hk₁ b o (of_hideAll _ e), Nat.le_of_eq (hideAll_size _ _)⟩ (X.keeps st) (fun p hp => ⟨hk₁ _ _ (NI p hp).1, Nat.ne_of_lt (Heap.lt_size (NI p hp).1), hideAll_none _ (List.mem_map_of_mem hp)⟩) (T.keeps st) (by omega) (by omega)).mono (fun fl s' hl => lv _ _ hl) fun _ _ y => y.elim

theorem conK_gen {w : World} {d : Nat} {f : Addr} {vs : List Value} {M I : Led} {P : Value → Led → Prop} (h : ∀ P' : Value → Led → Prop, (∀ r A, P r A → P' r A) → ConK w d f vs M I P') : ConK w d f vs M I P := h P fun _ _ x => x
theorem callWithKT {M : Model} {A : Around} {E : Value → Shared → Prop} {s : Shared} {env : Env} {pos : Pos} {T : String} {first : List Value} {Q : Value → Shared → Prop} {e : PySem.Expr} {rest : List PySem.Expr} (h : wpAny M A (spliced (backTo pos (starEach (e :: rest) env))) (fun vs s₁ => wpK M A (call (.type T) (first ++ vs)) Q E s₁) E s)
    (he : starEach (e :: rest) env = (false, eval e env) :: starEach rest env := by rfl) (hplain : (backTo pos (starEach rest env)).any (·.1) = false := by rfl) :
    wpK M A (callWith pos (.type T) first (backTo pos (starEach (e :: rest) env)) []) Q E s := by
  rw [he] at h ⊢
  exact callWithK_of (P := fun _ => True) (by show ((false || (backTo pos (starEach rest env)).any (·.1)) || false) = false; rw [hplain]; rfl) (fun _ _ => ⟨.machine, .inr (.inl rfl), Looks.now⟩) (evalArgs_plain (wpAny_mono h (fun _ _ x => ⟨trivial, x⟩) fun _ _ x => x))
noncomputable def baObj (l : List Int) : Obj := { cls := .type "bytearray", data := .bytearray (byteArr l) }
theorem byteArr_set (l : List Int) (k : Nat) (v : Int) : (byteArr l).setIfInBounds k v.toNat.toUInt8 = byteArr (l.set k v) := by
  unfold byteArr
  apply Array.toList_inj.mp
  simp [List.map_set]
theorem byteArr_zeros (n : Nat) : Array.replicate n (0 : UInt8) = byteArr (List.replicate n 0) := by
  unfold byteArr
  apply Array.toList_inj.mp
  simp
section
variable {w : World} {A : Around} {E : Value → Shared → Prop} {s : Shared} {h₀ : Heap} {L : Addr} {m : Str → Option Value} {news news' : Led}
theorem ba_makeK {n : Int} {t : Tok} {Q : Value → Shared → Prop} (F : Fr h₀ L s.heap m) (N : News h₀ L s.heap news) (h0 : 0 < n) (h1 : n ≤ 1000)
    (hQ : ∀ S h' k, Fr h₀ L h' m → News h₀ L h' ((S, baObj (List.replicate n.toNat 0)) :: news) → (∀ p ∈ news, p.1 < S) → Q (.ref S) { s with heap := h', toks := k }) :
    wpK (model PP w) A (call (.type "bytearray") [.int n t]) Q E s := by
  refine ba_callK h0 h1 fun h' k g₁ g₂ => hQ _ h' k (F.keeps g₂) (fun p hp => ?_) fun p hp => Heap.lt_size (N p hp).1
  rcases List.mem_cons.mp hp with rfl | hp
  · exact ⟨by rw [g₁, byteArr_zeros]; rfl, Nat.ne_of_gt F.ns.lt, next_is_new F⟩
  · exact ⟨g₂ _ _ (N p hp).1, (N p hp).2⟩
theorem ba_store {S : Addr} {l : List Int} {k v : Int} {t u : Tok} {Q : Unit → Shared → Prop} (F : Fr h₀ L s.heap m) (N : News h₀ L s.heap news) (h0 : 0 ≤ k) (h1 : k < (l.length : Int)) (hz : l.length ≤ 1000) (v0 : 0 ≤ v) (v1 : v < 256)
    (U : Upd S (baObj l) (baObj (l.set k.toNat v)) news news') (h : ∀ h', Fr h₀ L h' m → News h₀ L h' news' → Q () { s with heap := h' }) : wpAny (model PP w) A (setItem (.ref S) (.int k t) (.int v u)) Q E s := by
  obtain ⟨pre, post, rfl, rfl, a, b⟩ := U.split
  have z := N (S, baObj l) (List.mem_append.mpr (.inr (.head _)))
  refine ba_setItem z.1 h0 (by rw [byteArr_size]; exact h1) (by rw [byteArr_size]; exact hz) v0 v1 fun h' g₁ g₂ => h h' (F.change g₂ z.2.1 z.2.2) (news_set N a b g₂ ?_)
  rw [g₁, byteArr_set]; rfl
theorem ba_bytes {S : Addr} {l : List Int} {Q : Value → Shared → Prop} (N : News h₀ L s.heap news) (hm : (S, baObj l) ∈ news) (hz : l.length ≤ 1000) (h : ∀ t k, Q (.bytes (byteArr l) t) { s with toks := k }) : wpAny (model PP w) A (call (.type "bytes") [.ref S]) Q E s :=
  by_call (N _ hm).1 (by rw [byteArr_size, sizeLine_eq]; omega) h
end
section
variable {w : World} {A : Around} {E : Value → Shared → Prop} {h₀ : Heap} {env : Env} {body : List Stmt} {Q : Flow → Shared → Prop} {s : Shared} {R : Led} {m0 : Str → Option Value}
theorem rangeS_loop {x : Str} {r d : Addr} {o : Obj} {a₀ b₀ c : Int} {t₀ u₀ v₀ : Tok} {n : Nat} (J : Nat → Obj → (Str → Option Value) → Prop) (hh : A.handled = none) (hr : IsRange s.heap r a₀ b₀ c t₀ u₀ v₀) (hsmall : Builtin.Range.small a₀ b₀ c = true) (hn : Builtin.Range.rangeSize a₀ b₀ c = (n : Int)) (F : Fr h₀ env.locals s.heap m0) (N : News h₀ env.locals s.heap ((d, o) :: R)) (hJ : J 0 o m0)
    (step : ∀ I, (∀ p ∈ R, p.1 < I) → d < I → ∀ i o m, i < n → J i o m → ∀ (J' : Obj → (Str → Option Value) → Prop) (Q' : Flow → Shared → Prop), (∀ o m', J (i + 1) o m' → J' o m') → (∀ v s, Q (.ret v) s → Q' (.ret v) s) → ∀ t own h tk, (∀ p ∈ own, p.1 = I) → Fr h₀ env.locals h (fun y => if y = x then some (.int (a₀ + (i : Int) * c) t) else m y) → News h₀ env.locals h ((d, o) :: (own ++ R)) →
      wpAny (model PP w) A (execs body env) (TurnPost1 h₀ env.locals own d R { s with heap := h, toks := tk } J' Q') E { s with heap := h, toks := tk })
    (fin : ∀ o m, J n o m → ∀ h tk, Fr h₀ env.locals h m → News h₀ env.locals h ((d, o) :: R) → Q .next { s with heap := h, toks := tk }) :
    wpAny (model PP w) A (pyIter (.ref r)) (fun it s₂ => LoopAtV PP w A h₀ env x body Q E it s₂) E s := by
  refine wpAny_pyIter_range hr hsmall ?_
  have W : Walks PP w A s.heap.objs.size [s.heap.objs.size] [s.heap.objs.size] n (fun i v => i < n ∧ ∃ t, v = .int (a₀ + i * c) t)
      (fun i h => IsRangeIter h s.heap.objs.size (a₀ + (i : Nat) * c) ((n : Int) - (i : Nat)) c) := (Walks.range hh _ a₀ c n).bound
  have hIR : ∀ p ∈ R, p.1 < s.heap.objs.size := fun p hp => Heap.lt_size (N p (List.Mem.tail _ hp)).1
  have hId : d < s.heap.objs.size := Heap.lt_size (N (d, o) (List.Mem.head _)).1
  let J₂ : Nat → (Str → Option Value) → Led → Prop := fun i m₁ news₁ => ∃ o, news₁ = (d, o) :: R ∧ J i o m₁
  have hof : ∀ o : Obj, ∀ p ∈ (d, o) :: R, p.1 ∉ [s.heap.objs.size] := fun o p hp hI => by
    have e := List.mem_singleton.mp hI
    rcases List.mem_cons.mp hp with rfl | hp
    · exact absurd hId (e ▸ Nat.lt_irrefl _)
    · exact absurd (hIR p hp) (e ▸ Nat.lt_irrefl _)
  refine ⟨_, _, _, n, _, _, m0, (d, o) :: R, J₂, rfl, W, ?_, ?_, hof o, (by show IsRangeIter _ _ _ _ _; rw [hn]; simpa using Heap.get?_push_size _ rfl), F.push _, (fun p hp => ⟨Heap.get?_push_of_some _ (N p hp).1, (N p hp).2⟩), ⟨o, rfl, hJ⟩, ?_, ?_⟩
  · intro hm
    exact absurd F.ns.lt ((List.mem_singleton.mp hm) ▸ Nat.lt_irrefl _)
  · intro b hb
    rw [List.mem_singleton.mp hb]
    exact next_is_new F
  · rintro i v m₁ news₁ s₁ own ⟨hh', tk', rfl⟩ hin ⟨_, t, rfl⟩ ⟨o₁, rfl, hJ₁⟩ hoff hown hget hall hst F₁ N₁
    have hown' : ∀ p ∈ own, p.1 = s.heap.objs.size := fun p hp => List.mem_singleton.mp (hown p hp)
    have N₂ : News h₀ env.locals hh' ((d, o₁) :: (own ++ R)) := fun p hp => N₁ p (by
      simp only [List.mem_cons, List.mem_append] at hp ⊢
      rcases hp with h | h | h
      · exact .inr (.inl h)
      · exact .inl h
      · exact .inr (.inr h))
    refine wpAny_mono (step s.heap.objs.size hIR hId i o₁ m₁ hin hJ₁ (J (i + 1)) Q (fun _ _ z => z) (fun _ _ z => z) t own hh' tk' hown' F₁ N₂) (fun f s₂ p => ?_) fun _ _ e => e
    have up : TurnEnd1 h₀ env.locals own d R { s with heap := hh', toks := tk' } (J (i + 1)) s₂ → LoopStepV h₀ env.locals [s.heap.objs.size] own (J₂ (i + 1)) { s with heap := hh', toks := tk' } (fun v s' => Q (.ret v) s') (fun s' => Q .next s') .next s₂ := by
      rintro ⟨h', tk, m', all, o', e, F', N', hi, hd, hR, hj⟩
      refine ⟨rfl, h', tk, m', (d, o') :: R, e, F', fun p hp => ?_, hof o', o', rfl, hj⟩
      rcases List.mem_append.mp hp with hp | hp
      · exact N' _ (hi _ hp)
      · rcases List.mem_cons.mp hp with rfl | hp
        · exact N' _ hd
        · exact N' _ (hR _ hp)
    cases f with
    | ret v => exact p
    | brk => exact p
    | next => exact up p
    | cont => exact up p
  · rintro h' tk m' news' F' N' _ ⟨o', rfl, hj⟩
    exact fin o' m' hj h' tk F' N'
end
noncomputable def bsw (ks : List Int) : Nat → List Int
  | 0 => List.replicate 8 0
  | q + 1 => (bsw ks q).set (4 * (q / 4) + 3 - q % 4) (ks.getD q 0)
theorem bsw_len (ks : List Int) : ∀ q, (bsw ks q).length = 8
  | 0 => by simp [bsw]
  | q + 1 => by simp [bsw, bsw_len ks q]
end
section
set_option maxRecDepth 100000
set_option maxHeartbeats 8000000
open PySem PySem.W PyProof.Rows PySem.Spec PySem.Calls
noncomputable def ConL (w : World) (d : Nat) (f : Addr) (sl : Addr) (its : Array Value) (vs : List Value) (M I : Led) (P : Value → Led → Prop) : Prop :=
  ∀ (rest : Led) (loose : List Str) (mean : ExcName → Option Value) (mg mb : Str → Option Value) (dp un : Nat) (gd : Option (List Code)) (cn : Str) (cs : Scope) (a : Addr) (ccd : Value) (cl : List (Str × Addr)) (outer : List Env) (A₀ : Around) (base h₀ : Heap) (L : Addr) (m : Str → Option Value) (s : Shared) (Q E : Value → Shared → Prop),
    h₀.IsList sl its → Below A₀ base outer h₀ → Fr h₀ L s.heap m → (K9 w.params).In h₀ → News h₀ L s.heap (M ++ rest) → (∀ p ∈ I, p ∈ rest) → (∀ p ∈ M, ∀ q ∈ rest, q.1 ≠ p.1) → Top topProg loose mean mg mb h₀ → cs.kind = .function → dp + d < recursionLimit → un + 12 * d < cLine →
    (∀ r A' h' tk', Fr h₀ L h' m → News h₀ L h' (A' ++ rest) → (∀ p ∈ A', AptL p.1 rest) → P r A' → Q r { s with heap := h', toks := tk' }) →
    wpAny (model PP w) (ktrTop dp un gd cn cs L a ccd cl outer) (call (.ref f) vs) Q E s
theorem conL_gen {w : World} {d : Nat} {f : Addr} {sl : Addr} {its : Array Value} {vs : List Value} {M I : Led} {P : Value → Led → Prop} (h : ∀ P' : Value → Led → Prop, (∀ r A, P r A → P' r A) → ConL w d f sl its vs M I P') : ConL w d f sl its vs M I P := h P fun _ _ x => x
section
variable {w : World} {d : Nat} {f : Addr} {sl : Addr} {its : Array Value} {vs : List Value} {M I : Led} {P : Value → Led → Prop} {name qual : Str} {params : Arguments} {body : List Stmt} {scope : Scope} {dV kV doc pm cdv ct oc : Value} {an od : Option Addr} {osl : Array (Option Value)} {binds : List (Str × Value)} {fd : FuncData}

theorem conL_plain (ho : (K9 w.params).lookup f = some ⟨oc, od, .func fd, osl⟩) (hfd : fd = fnOf name qual params body scope dV kV doc pm an cdv ct) (hcd : codeIn (K9 w.params) cdv qual = true)
    (hbind : bindArgs (fnOf name qual params body scope dV kV doc pm an cdv ct) ⟨vs, []⟩ = pure binds) (hloc : ∀ y ∈ binds, scope.names.lookup y.1 = some .local)
    (hco : scope.isCoroutine = false) (hgen : scope.isGenerator = false) (hk : scope.kind = .function) (hcell : ∀ x ∈ scope.names, x.2 ≠ .cell)
    (h : ∀ (loose : List Str) (mean : ExcName → Option Value) (mg mb : Str → Option Value) (dp un : Nat) (gd : Option (List Code)) (outer : List Env) (A₀ : Around) (base g : Heap) (L : Addr) (h₁ : Heap) (s₀ : Shared) (tk : Nat) (Q₀ : Flow → Shared → Prop), (∀ v s', Ret g s₀ I P v s' → Q₀ (.ret v) s') → (∀ s', Ret g s₀ I P .none s' → Q₀ .next s') →
      Below A₀ base outer g → g.IsList sl its → Fr g L h₁ (fun y => binds.reverse.lookup y) → (K9 w.params).In g → News g L h₁ (M ++ I) → Top topProg loose mean mg mb g → dp + d < recursionLimit → un + 12 * d + 9 < cLine →
      wpAny (model PP w) (ktrTop dp un gd qual scope L f cdv [] outer) (execs body (envX qual scope L f cdv [])) Q₀ (fun _ _ => False) { s₀ with heap := h₁, toks := tk }) :
    ConL w (d + 1) f sl its vs M I P := by
  subst hfd
  intro rest loose mean mg mb dp un gd cn cs a ccd cl outer A₀ base h₀ L m s Q E HL B F X N hI hM T hkc hd hu ret
  obtain ⟨NI, BG, st, lv⟩ := hide_facts (Ar := ktrTop dp un gd cn cs L a ccd cl outer) (env := envX cn cs L a ccd cl) B F N hI hM rfl rfl hkc ret
  refine wpAny_call (codeAny_call_def (fd := fnOf name qual params body scope dV kV doc pm an cdv ct) (body := body) (binds := binds) (by show dp < _; omega) ((X.keeps F.keep) _ _ ho) rfl (T.nolimit.keeps F.keep) (codeRec_of (X.keeps F.keep) hcd) rfl (BindsTo.of_eq hbind) hcell hloc (fun h₁ hns hk₁ => ?_) hco hgen hk)
  refine wpAny_mono (h loose mean mg mb (dp + 1) (un + 3) gd (envX cn cs L a ccd cl :: outer) _ base _ s.heap.objs.size h₁ s _ (fun fl s' => Ret _ s I P (match fl with | .ret v => v | _ => .none) s') (fun _ _ x => x) (fun _ x => x) BG (HL.at fun o e => st _ o e) ⟨hns, fun b o e => hk₁ b o (of_hideAll _ e), Nat.le_of_eq (hideAll_size _ _)⟩ (X.keeps st) (fun p hp => ⟨hk₁ _ _ (NI p hp).1, Nat.ne_of_lt (Heap.lt_size (NI p hp).1), hideAll_none _ (List.mem_map_of_mem hp)⟩) (T.keeps st) (by omega) (by omega)) (fun fl s' hl => lv _ _ hl) fun _ _ y => y.elim

end
noncomputable def ConC (w : World) (d : Nat) (f : Addr) (vs : List Value) (M I : Led) (P : Value → Led → Prop) : Prop :=
  ∀ (rest : Led) (loose : List Str) (mean : ExcName → Option Value) (mg mb : Str → Option Value) (A : Around) (env : Env) (outer : List Env) (A₀ : Around) (base h₀ : Heap) (L : Addr) (m : Str → Option Value) (s : Shared) (R : Result → Shared → Prop),
    Below A₀ base outer h₀ → Fr h₀ L s.heap m → (K9 w.params).In h₀ → News h₀ L s.heap (M ++ rest) → (∀ p ∈ I, p ∈ rest) → (∀ p ∈ M, ∀ q ∈ rest, q.1 ≠ p.1) → Top topProg loose mean mg mb h₀ → A.handled = none → A.frames = some (env :: outer) → env.frame = some L → env.scope.kind = .function → A.depth + d < recursionLimit → A.units + 12 * d < cLine →
    (∀ r A' h' tk', Fr h₀ L h' m → News h₀ L h' (A' ++ rest) → (∀ p ∈ A', AptL p.1 rest) → P r A' → R (.ok (.ret r)) { s with heap := h', toks := tk' }) →
    codeAny (model PP w) A (.call (.ref f) ⟨vs, []⟩) R s
theorem conC_gen {w : World} {d : Nat} {f : Addr} {vs : List Value} {M I : Led} {P : Value → Led → Prop} (h : ∀ P' : Value → Led → Prop, (∀ r A, P r A → P' r A) → ConC w d f vs M I P') : ConC w d f vs M I P := h P fun _ _ x => x
section
variable {w : World} {d : Nat} {f : Addr} {vs : List Value} {M I : Led} {P : Value → Led → Prop} {name qual : Str} {params : Arguments} {body : List Stmt} {scope : Scope} {dV kV doc pm cdv ct oc : Value} {an od : Option Addr} {osl : Array (Option Value)} {binds : List (Str × Value)} {fd : FuncData}

theorem conC_plain (ho : (K9 w.params).lookup f = some ⟨oc, od, .func fd, osl⟩) (hfd : fd = fnOf name qual params body scope dV kV doc pm an cdv ct) (hcd : codeIn (K9 w.params) cdv qual = true)
    (hbind : bindArgs (fnOf name qual params body scope dV kV doc pm an cdv ct) ⟨vs, []⟩ = pure binds) (hloc : ∀ y ∈ binds, scope.names.lookup y.1 = some .local)
    (hco : scope.isCoroutine = false) (hgen : scope.isGenerator = false) (hk : scope.kind = .function) (hcell : ∀ x ∈ scope.names, x.2 ≠ .cell)
    (h : ∀ (loose : List Str) (mean : ExcName → Option Value) (mg mb : Str → Option Value) (dp un : Nat) (gd : Option (List Code)) (outer : List Env) (A₀ : Around) (base g : Heap) (L : Addr) (h₁ : Heap) (s₀ : Shared) (tk : Nat) (Q₀ : Flow → Shared → Prop), (∀ v s', Ret g s₀ I P v s' → Q₀ (.ret v) s') → (∀ s', Ret g s₀ I P .none s' → Q₀ .next s') →
      Below A₀ base outer g → Fr g L h₁ (fun y => binds.reverse.lookup y) → (K9 w.params).In g → News g L h₁ (M ++ I) → Top topProg loose mean mg mb g → dp + d < recursionLimit → un + 12 * d + 9 < cLine →
      wpAny (model PP w) (ktrTop dp un gd qual scope L f cdv [] outer) (execs body (envX qual scope L f cdv [])) Q₀ (fun _ _ => False) { s₀ with heap := h₁, toks := tk }) :
    ConC w (d + 1) f vs M I P := by
  subst hfd
  intro rest loose mean mg mb A env outer A₀ base h₀ L m s R B F X N hI hM T hh hfr hfe hkc hd hu ret
  obtain ⟨hn, dp, fr, gd, un⟩ := A
  simp only at hh hfr hd hu
  subst hh hfr
  obtain ⟨NI, BG, st, lv⟩ := hide_facts (Ar := { handled := none, depth := dp, frames := some (env :: outer), guards := gd, units := un }) (env := env) B F N hI hM rfl hfe hkc (Q := fun v s => R (.ok (.ret v)) s) ret
  refine codeAny_call_def (fd := fnOf name qual params body scope dV kV doc pm an cdv ct) (body := body) (binds := binds) (by show dp < _; omega) ((X.keeps F.keep) _ _ ho) rfl (T.nolimit.keeps F.keep) (codeRec_of (X.keeps F.keep) hcd) rfl (BindsTo.of_eq hbind) hcell hloc (fun h₁ hns hk₁ => ?_) hco hgen hk
  refine wpAny_mono (h loose mean mg mb (dp + 1) (un + 3) gd (env :: outer) _ base _ s.heap.objs.size h₁ s _ (fun fl s' => Ret _ s I P (match fl with | .ret v => v | _ => .none) s') (fun _ _ x => x) (fun _ x => x) BG ⟨hns, fun b o e => hk₁ b o (of_hideAll _ e), Nat.le_of_eq (hideAll_size _ _)⟩ (X.keeps st) (fun p hp => ⟨hk₁ _ _ (NI p hp).1, Nat.ne_of_lt (Heap.lt_size (NI p hp).1), hideAll_none _ (List.mem_map_of_mem hp)⟩) (T.keeps st) (by omega) (by omega)) (fun fl s' hl => lv _ _ hl) fun _ _ y => y.elim
end
section
variable {w : World} {d : Nat} {f : Addr} {sl : Addr} {its : Array Value} {vs : List Value} {M I news rest : Led} {P : Value → Led → Prop} {loose : List Str} {mean : ExcName → Option Value} {mg mb : Str → Option Value} {dp un : Nat} {gd : Option (List Code)} {cn : Str} {cs : Scope} {a : Addr} {ccd : Value} {cl : List (Str × Addr)} {outer : List Env} {A₀ : Around} {base h₀ : Heap} {L : Addr} {m : Str → Option Value} {s : Shared} {Q E : Value → Shared → Prop}
theorem conL_use {D : (Value → Led → Prop) → Prop} (el : ∀ K : Value → Led → Prop, D K → ∀ r A, P r A → K r A) (C : ConL w d f sl its vs [] I P) (HL : h₀.IsList sl its) (B : Below A₀ base outer h₀) (F : Fr h₀ L s.heap m) (X : (K9 w.params).In h₀) (N : News h₀ L s.heap news) (T : Top topProg loose mean mg mb h₀) (hk : cs.kind = .function) (hI : ∀ p ∈ I, p ∈ news) (hd : dp + d < recursionLimit) (hu : un + 12 * d < cLine)
    (ret : D (fun r A' => ∀ h' tk', Fr h₀ L h' m → News h₀ L h' (A' ++ news) → (∀ p ∈ A', AptL p.1 news) → Q r { s with heap := h', toks := tk' })) :
    wpAny (model PP w) (ktrTop dp un gd cn cs L a ccd cl outer) (call (.ref f) vs) Q E s :=
  C _ _ _ _ _ _ _ _ _ _ _ _ _ _ _ _ _ _ _ _ _ _ HL B F X N hI (fun p h => absurd h (List.not_mem_nil)) T hk hd hu (fun r A' h' tk' F' N' Z' p => el _ ret r A' p h' tk' F' N' Z')
theorem conK_use {f : Addr} {vs : List Value} {D : (Value → Prop) → Prop} (el : ∀ K : Value → Prop, D K → ∀ r A, P r A → K r ∧ A = []) (C : ConK w d f vs [] I P) (B : Below A₀ base outer h₀) (F : Fr h₀ L s.heap m) (X : (K9 w.params).In h₀) (N : News h₀ L s.heap news) (T : Top topProg loose mean mg mb h₀) (hk : cs.kind = .function) (hI : ∀ p ∈ I, p ∈ news) (hd : dp + d < recursionLimit) (hu : un + 12 * d < cLine)
    (ret : D (fun r => ∀ h' tk', Fr h₀ L h' m → News h₀ L h' news → Q r { s with heap := h', toks := tk' })) :
    wpK (model PP w) (ktrTop dp un gd cn cs L a ccd cl outer) (call (.ref f) vs) Q E s :=
  C _ _ _ _ _ _ _ _ _ _ _ _ _ _ _ _ _ _ _ _ _ _ B F X N hI (fun p h => absurd h (List.not_mem_nil)) T hk hd hu (fun r A' h' tk' F' N' _ p => (el _ ret r A' p).1 h' tk' F' (by rw [(el _ ret r A' p).2] at N'; exact N'))
theorem conC_use {D : (Value → Led → Prop) → Prop} (el : ∀ K : Value → Led → Prop, D K → ∀ r A, P r A → K r A) {A : Around} {env : Env} {Rr : Result → Shared → Prop} (C : ConC w d f vs M I P) (B : Below A₀ base outer h₀) (F : Fr h₀ L s.heap m) (X : (K9 w.params).In h₀) (N : News h₀ L s.heap (M ++ rest)) (T : Top topProg loose mean mg mb h₀) (hh : A.handled = none) (hA : A.frames = some (env :: outer)) (hf : env.frame = some L) (hk : env.scope.kind = .function) (hI : ∀ p ∈ I, p ∈ rest) (hM : ∀ p ∈ M, ∀ q ∈ rest, q.1 ≠ p.1) (hd : A.depth + d < recursionLimit) (hu : A.units + 12 * d < cLine)
    (ret : D (fun r A' => ∀ h' tk', Fr h₀ L h' m → News h₀ L h' (A' ++ rest) → (∀ p ∈ A', AptL p.1 rest) → Rr (.ok (.ret r)) { s with heap := h', toks := tk' })) :
    codeAny (model PP w) A (.call (.ref f) ⟨vs, []⟩) Rr s :=
  C _ _ _ _ _ _ _ _ _ _ _ _ _ _ _ B F X N hI hM T hh hA hf hk hd hu (fun r A' h' tk' F' N' Z' p => el _ ret r A' p h' tk' F' N' Z')
theorem con_shift {T' : Led} (C : Con w d f vs [] (T' ++ I) P) : Con w d f vs T' I (fun r A => ∃ A', A = A' ++ T' ∧ P r A') := by
  intro rest loose mean mg mb dp un gd cn cs a ccd cl outer A₀ base h₀ L m s Q E B F X N hI hM T hk hd hu ret
  refine C (T' ++ rest) loose mean mg mb dp un gd cn cs a ccd cl outer A₀ base h₀ L m s Q E B F X N (fun p hp => ?_) (fun p h => absurd h (List.not_mem_nil)) T hk hd hu fun r A' h' tk' F' N' Z' P' => ret r (A' ++ T') h' tk' F' (by rw [List.append_assoc]; exact N') (fun p hp => ⟨fun q hq => ?_⟩) ⟨A', rfl, P'⟩
  · rcases List.mem_append.mp hp with hp | hp
    · exact List.mem_append_left _ hp
    · exact List.mem_append_right _ (hI p hp)
  · rcases List.mem_append.mp hp with hp | hp
    · exact (Z' p hp).get q (List.mem_append_right _ hq)
    · exact hM p hp q hq
end
theorem execs_app {M : Model} {A : Around} {E : Value → Shared → Prop} {s : Shared} {env : Env} {Q : Flow → Shared → Prop} {pre rest : List Stmt} (h : wpAny M A (execs pre env) (fun f s' => match f with | .next => wpAny M A (execs rest env) Q E s' | f => Q f s') E s) : wpAny M A (execs (pre ++ rest) env) Q E s := fun Γ p hΓ => by
  have main : ∀ (pre : List Stmt) (p : Pos) (s : Shared), Sem.wp M Γ (execs pre env) (fun f _ s' => match f with | .next => wpAny M A (execs rest env) Q E s' | f => Q f s') (fun e _ s' => E e s') p s → Sem.wp M Γ (execs (pre ++ rest) env) (fun f _ s' => Q f s') (fun e _ s' => E e s') p s := by
    intro pre
    induction pre with
    | nil => intro p s h; exact (show wpAny M A (execs rest env) Q E s from h) Γ p hΓ
    | cons st pre ih =>
      intro p s h
      rw [List.cons_append, execs_cons, Sem.wp_bind']
      rw [execs_cons, Sem.wp_bind'] at h
      refine Sem.wp_mono M Γ _ (fun f p' s' h' => ?_) (fun _ _ _ h' => h') _ _ h
      cases f <;> first | exact ih p' s' h' | exact h'
  exact main pre p s (h Γ p hΓ)
theorem refs_snoc {no : Nat → Addr} {i : Nat} {x : Addr} : (List.range i).map (fun j => Value.ref (no j)) ++ [.ref x] = (List.range (i + 1)).map (fun j => Value.ref ((fun j => if j = i then x else no j) j)) := by
  rw [List.range_succ, List.map_append]
  congr 1
  · refine List.map_congr_left fun j hj => ?_
    have := List.mem_range.mp hj
    simp only [if_neg (Nat.ne_of_lt this)]
  · simp
inductive EndRef (t : Addr × Obj) (R' : Led) (W : Led → Nat → Addr → Prop) (i : Nat) : Value → Led → Prop
  | mk (a : Addr) (R'' : Led) (h1 : ∀ p ∈ R', p ∈ R'') (h2 : ∀ q ∈ R'', @Ne Nat q.1 t.1) (h3 : W R'' i a) : EndRef t R' W i (.ref a) (t :: R'')
inductive CoJ (t : Addr × Obj) (R0 : Led) (W : Led → Nat → Addr → Prop) (i : Nat) : List Value → Led → Prop
  | mk (R' : Led) (co : Nat → Addr) (h1 : ∀ p ∈ R0, p ∈ R') (h2 : ∀ q ∈ R', @Ne Nat q.1 t.1) (h3 : ∀ j, j < i → W R' j (co j)) : CoJ t R0 W i ((List.range i).map fun j => Value.ref (co j)) (t :: R')
theorem comp_refs {prog : Program} {w : World} {A : Around} {h₀ : Heap} {L : Addr} {m : Str → Option Value} {env : Env} {elt : PySem.Expr} {x : Str} {scope : PySem.Scope} {cl : List (Str × Addr)} {s : Shared} {S : Led → Prop} {Fn : List Value → Led → Prop} {n : Nat} {t : Addr × Obj} {R0 : Led} {a : Int} (W : Led → Nat → Addr → Prop)
    (mono : ∀ R R' j y, (∀ p ∈ R, p ∈ R') → W R j y → W R' j y) (h0 : ∀ q ∈ R0, @Ne Nat q.1 t.1)
    (step : ∀ i R' ys, i < n → (∀ p ∈ R0, p ∈ R') → (∀ q ∈ R', @Ne Nat q.1 t.1) → ∀ t' I oI oC C D m₂ h tk (E' : Value → Shared → Prop), LCg.NsObj oC m₂ → m₂ x = some (.int (a + (i : Int)) t') → Fr h₀ L h m → News h₀ L h ((I, oI) :: (C, oC) :: (D, LCg.lst ys) :: t :: R') → LCg.Off3 I C D (t :: R') →
      wpAny (model prog w) A (eval elt (compEnvC scope cl C env)) (LCg.CompEnd h₀ L m { s with heap := h, toks := tk } I oI C oC D (LCg.lst ys) S (EndRef t R' W i)) E' { s with heap := h, toks := tk })
    (fin : ∀ R' (co : Nat → Addr), (∀ p ∈ R0, p ∈ R') → (∀ q ∈ R', @Ne Nat q.1 t.1) → (∀ j, j < n → W R' j (co j)) → Fn ((List.range n).map fun j => Value.ref (co j)) (t :: R')) :
    LCg.CompRest prog w A h₀ L m env elt x scope cl s S (fun i v => ∃ t', v = .int (a + (i : Int)) t') Fn n 0 [] (t :: R0) := by
  refine comp_ind (fun i ys nw => CoJ t R0 W i ys nw) (fun i ys nw hi hJ v I oI C oC D m₂ h tk E' hv hC hx F N off => ?_) (fun ys nw hJ => ?_) n 0 [] (t :: R0) (Nat.zero_add n) (.mk R0 (fun _ => 0) (fun _ h => h) h0 fun j hj => absurd hj (Nat.not_lt_zero _))
  · obtain ⟨R', co, h1, h2, h3⟩ := hJ
    obtain ⟨t', rfl⟩ := hv
    refine wpAny_mono (step i R' _ hi h1 h2 t' I oI oC C D m₂ h tk E' hC hx F N off) (fun y s₂ hce => ?_) fun _ _ e => e
    obtain ⟨h', tk', news', e', F', N', o', hS, r⟩ := hce
    refine ⟨h', tk', news', e', F', N', o', hS, ?_⟩
    obtain ⟨a', R'', k1, k2, k3⟩ := r
    rw [refs_snoc]
    refine .mk R'' _ (fun p hp => k1 p (h1 p hp)) k2 fun j hj => ?_
    rcases Nat.lt_or_eq_of_le (Nat.le_of_lt_succ hj) with hlt | rfl
    · show W R'' j (if j = i then a' else co j)
      rw [if_neg (Nat.ne_of_lt hlt)]
      exact mono _ _ _ _ k1 (h3 j hlt)
    · show W R'' j (if j = j then a' else co j)
      rw [if_pos rfl]
      exact k3
  · obtain ⟨R', co, h1, h2, h3⟩ := hJ
    exact fin R' co h1 h2 h3
inductive EndRef2 (e t : Addr × Obj) (R' : Led) (W : Led → Nat → Addr → Prop) (i : Nat) : Value → Led → Prop
  | mk (a : Addr) (R'' : Led) (h1 : ∀ p ∈ R', p ∈ R'') (h2 : ∀ q ∈ R'', @Ne Nat q.1 e.1) (h3 : ∀ q ∈ R'', @Ne Nat q.1 t.1) (h4 : W R'' i a) : EndRef2 e t R' W i (.ref a) (e :: t :: R'')
inductive CoJ2 (e t : Addr × Obj) (R0 : Led) (W : Led → Nat → Addr → Prop) (i : Nat) : List Value → Led → Prop
  | mk (R' : Led) (co : Nat → Addr) (h1 : ∀ p ∈ R0, p ∈ R') (h2 : ∀ q ∈ R', @Ne Nat q.1 e.1) (h3 : ∀ q ∈ R', @Ne Nat q.1 t.1) (h4 : ∀ j, j < i → W R' j (co j)) : CoJ2 e t R0 W i ((List.range i).map fun j => Value.ref (co j)) (e :: t :: R')
theorem comp_refs2 {prog : Program} {w : World} {A : Around} {h₀ : Heap} {L : Addr} {m : Str → Option Value} {env : Env} {elt : PySem.Expr} {x : Str} {scope : PySem.Scope} {cl : List (Str × Addr)} {s : Shared} {S : Led → Prop} {P : Nat → Value → Prop} {Fn : List Value → Led → Prop} {n : Nat} {e t : Addr × Obj} {R0 : Led} (vf : Nat → Tok → Value) (W : Led → Nat → Addr → Prop)
    (hP : ∀ i v, i < n → P i v → ∃ t, v = vf i t) (mono : ∀ R R' j y, (∀ p ∈ R, p ∈ R') → W R j y → W R' j y) (h0 : ∀ q ∈ R0, @Ne Nat q.1 e.1) (h0' : ∀ q ∈ R0, @Ne Nat q.1 t.1)
    (step : ∀ i R' ys, i < n → (∀ p ∈ R0, p ∈ R') → (∀ q ∈ R', @Ne Nat q.1 e.1) → (∀ q ∈ R', @Ne Nat q.1 t.1) → ∀ tv I oI oC C D m₂ h tk (E' : Value → Shared → Prop), LCg.NsObj oC m₂ → m₂ x = some (vf i tv) → Fr h₀ L h m → News h₀ L h ((I, oI) :: (C, oC) :: (D, LCg.lst ys) :: e :: t :: R') → LCg.Off3 I C D (e :: t :: R') →
      wpAny (model prog w) A (eval elt (compEnvC scope cl C env)) (LCg.CompEnd h₀ L m { s with heap := h, toks := tk } I oI C oC D (LCg.lst ys) S (EndRef2 e t R' W i)) E' { s with heap := h, toks := tk })
    (fin : ∀ R' (co : Nat → Addr), (∀ p ∈ R0, p ∈ R') → (∀ q ∈ R', @Ne Nat q.1 e.1) → (∀ q ∈ R', @Ne Nat q.1 t.1) → (∀ j, j < n → W R' j (co j)) → Fn ((List.range n).map fun j => Value.ref (co j)) (e :: t :: R')) :
    LCg.CompRest prog w A h₀ L m env elt x scope cl s S P Fn n 0 [] (e :: t :: R0) := by
  refine comp_ind (fun i ys nw => CoJ2 e t R0 W i ys nw) (fun i ys nw hi hJ v I oI C oC D m₂ h tk E' hv hC hx F N off => ?_) (fun ys nw hJ => ?_) n 0 [] (e :: t :: R0) (Nat.zero_add n) (.mk R0 (fun _ => 0) (fun _ h => h) h0 h0' fun j hj => absurd hj (Nat.not_lt_zero _))
  · obtain ⟨R', co, h1, h2, h3, h4⟩ := hJ
    obtain ⟨tv, rfl⟩ := hP i v hi hv
    refine wpAny_mono (step i R' _ hi h1 h2 h3 tv I oI oC C D m₂ h tk E' hC hx F N off) (fun y s₂ hce => ?_) fun _ _ e => e
    obtain ⟨h', tk', news', e', F', N', o', hS, r⟩ := hce
    refine ⟨h', tk', news', e', F', N', o', hS, ?_⟩
    obtain ⟨a', R'', k1, k2, k3, k4⟩ := r
    rw [refs_snoc]
    refine .mk R'' _ (fun p hp => k1 p (h1 p hp)) k2 k3 fun j hj => ?_
    rcases Nat.lt_or_eq_of_le (Nat.le_of_lt_succ hj) with hlt | rfl
    · show W R'' j (if j = i then a' else co j)
      rw [if_neg (Nat.ne_of_lt hlt)]
      exact mono _ _ _ _ k1 (h4 j hlt)
    · show W R'' j (if j = j then a' else co j)
      rw [if_pos rfl]
      exact k4
  · obtain ⟨R', co, h1, h2, h3, h4⟩ := hJ
    exact fin R' co h1 h2 h3 h4
end
section
set_option maxRecDepth 100000
set_option maxHeartbeats 8000000
open PySem PySem.W PyProof.Rows PySem.Spec PySem.Calls
section
variable {w : World} {f : Addr} {vs : List Value} {name qual : Str} {params : Arguments} {body : List Stmt} {scope : Scope} {dV kV doc pm cdv ct oc : Value} {an od : Option Addr} {osl : Array (Option Value)} {binds : List (Str × Value)} {fd : FuncData}
theorem wpK_cells (ho : (K9 w.params).lookup f = some ⟨oc, od, .func fd, osl⟩) (hfd : fd = fnOf name qual params body scope dV kV doc pm an cdv ct) (hcd : codeIn (K9 w.params) cdv qual = true)
    (hbind : bindArgs (fnOf name qual params body scope dV kV doc pm an cdv ct) ⟨vs, []⟩ = pure binds) (hkind : (binds.all fun y => scope.names.lookup y.1 == some .local || scope.names.lookup y.1 == some .cell) = true)
    (hco : scope.isCoroutine = false) (hgen : scope.isGenerator = false) (hk : scope.kind = .function) (hnd : ((cellsFrom 0 scope.names []).map (·.1)).Nodup)
    {s : Shared} {A : Around} {Q : Value → Shared → Prop} (hroom : A.depth < recursionLimit) (X : (K9 w.params).In s.heap) (hlim : s.heap.NoLimit)
    (h : ∀ (h₁ : Heap) (tk : Nat) (cells : Led), (∀ b o, s.heap.get? b = some o → h₁.get? b = some o) → h₁.Ns s.heap.objs.size (bindL (envOfC qual scope s.heap.objs.size f cdv).kindOf binds fun _ => none) → News s.heap s.heap.objs.size h₁ cells →
      CellsAre (bindC (envOfC qual scope s.heap.objs.size f cdv).kindOf binds fun _ => none) (cellsFrom (s.heap.objs.size + 1) scope.names []) cells →
      wpK (model PP w) (A.deeper (envX qual scope s.heap.objs.size f cdv (cellsFrom (s.heap.objs.size + 1) scope.names []))) (execs body (envX qual scope s.heap.objs.size f cdv (cellsFrom (s.heap.objs.size + 1) scope.names []))) (fun fl s' => Q (match fl with | .ret v => v | _ => .none) s') (fun _ _ => False) { s with heap := h₁, toks := tk }) :
    wpK (model PP w) A (call (.ref f) vs) Q (fun _ _ => False) s := by
  subst hfd
  refine wpK.call (call_functionK (fd := fnOf name qual params body scope dV kV doc pm an cdv ct) hroom (X _ _ ho) rfl hco hgen rfl (codeRec_of X hcd) (BindsTo.of_eq hbind) ?_)
  refine wpAny_newFunctionEnv_cells hk (kindsX hkind _) fun env' he s' x => ?_
  subst he
  refine ⟨hlim.keeps x.toInCall.keep, funcK ?_⟩
  obtain ⟨h₁, tk, rfl, _⟩ := x.done
  have hk₁ := x.toInCall.keep
  obtain ⟨cells, NC, Y⟩ := PyProof.Rows.Cl.news (h₀ := s.heap) (Nat.le_refl _) fun n c hm => ⟨x.cell n c (lookup_of_mem_nodup (cellsFrom_names scope.names 0 (s.heap.objs.size + 1) [] [] rfl ▸ hnd) hm), x.above n c hm⟩
  exact (h h₁ tk cells hk₁ x.toInCall.ns NC Y).mono (fun fl s' q => q) fun _ _ y => y.elim
end
end
section
set_option maxRecDepth 100000
set_option maxHeartbeats 8000000
open PySem PySem.W PyProof.Rows PySem.Spec PySem.Calls
section
variable {prog : Program} {w : World} {A : Around} {E : Value → Shared → Prop} {s : Shared}
noncomputable def ByteAt (b : Array UInt8) (i : Nat) (v : Value) : Prop := ∃ c u, b[i]? = some c ∧ v = .int (c.toNat : Int) u
theorem extend_bytes {R : Result → Shared → Prop} (hh : A.handled = none) (b : Array UInt8) (t : Tok) (S : Addr) (res : Value) (c₀ : Nat) (hS : s.heap.get? S = some { cls := .type "list", data := .seq #[] c₀ })
    (hR : ∀ h' tk acc' c', (∀ b o, b ≠ S → s.heap.get? b = some o → h'.get? b = some o) → h'.get? S = some { cls := .type "list", dict := none, data := .seq acc' c', slots := #[] } →
      ItemsOf (ByteAt b) acc' b.size → R (.ok (.ret res)) { s with heap := h', toks := tk }) (hn : b.size ≤ sizeLine) :
    wpAny (model prog w) A.in1 (Builtin.List.listExtendWith (.ref S) (.bytes b t) res)
      (fun fin s' => match fin with | .done f => R (.ok f) s' | .again c' => c'.quiet = true ∧ codeAny (model prog w) A c' R s') (fun e s' => R (.error e) s') s := by
  have hSI : S ≠ s.heap.objs.size := Nat.ne_of_lt (Heap.lt_size hS)
  have hSf : S ∉ [s.heap.objs.size] := fun hm => hSI (List.mem_singleton.mp hm)
  unfold Builtin.List.listExtendWith
  refine wpAny_bind (wpAny_typeOf (T := "bytes") (v := .bytes b t) rfl ?_)
  have h1 : Builtin.List.listSameRef (.ref S) (.bytes b t) = false := rfl
  have h2 : (Value.type "bytes" == Value.type "list") = false := by decide
  have h3 : (Value.type "bytes" == Value.type "tuple") = false := by decide
  simp only [h1, h2, h3, Bool.or_false, Bool.false_eq_true, if_false]
  refine wpAny_bind (KBw.pyIter_bytes ?_)
  refine wpAny_bind (wpAny_holding ?_)
  unfold Builtin.List.listLengthHint
  refine wpAny_bind (wpAny_specialOf (T := "bytes") (v := .bytes b t) rfl FB.slot_bytes_len.lookup ?_)

  wp_delta
  refine wpAny_bind (wpAny_isInstance (T := "bytes") (v := .bytes b t) (b := true) rfl (by rw [isSubtype_type]; kernel_rfl) ?_)
  show wpAny _ _ (typeOf (Value.bytes b t) >>= _) _ _ _
  refine wpAny_bind (wpAny_typeOf (T := "bytes") (v := .bytes b t) rfl ?_)
  refine wpAny_pure ?_
  rw [if_neg (by decide)]
  refine wpAny_pure ⟨plainId_quiet F.plain_extend_loop _, codeAny_extend_loopS (KBw.walks (A := A.in1) hh s.heap.objs.size b t).toS hn _ hSf _ b.size 0 _ _ _ rfl (Nat.zero_le _) ⟨_, Heap.get?_push_size _ rfl, rfl, rfl⟩ (Heap.get?_push_of_some _ hS) (ItemsOf.nil _) fun s' acc' c' hm hS' hacc => ?_⟩
  rw [Moved.eq_with hm]
  refine hR s'.heap s'.toks acc' c' (fun b ob hb e => hm.heap b ob (fun hmem => ?_) (Heap.get?_push_of_some _ e)) hS' hacc
  rcases List.mem_cons.mp hmem with e' | hmem
  · exact hb e'
  · exact absurd (Heap.lt_size e) (by rw [List.mem_singleton.mp hmem]; exact Nat.lt_irrefl _)

theorem list_init_bytes {R : Result → Shared → Prop} (hh : A.handled = none) (b : Array UInt8) (t : Tok) (S : Addr) (hS : s.heap.get? S = some { cls := .type "list", data := .seq #[] })
    (hR : ∀ h' tk acc' c', (∀ b o, b ≠ S → s.heap.get? b = some o → h'.get? b = some o) → h'.get? S = some { cls := .type "list", dict := none, data := .seq acc' c', slots := #[] } →
      ItemsOf (ByteAt b) acc' b.size → R (.ok (.ret .none)) { s with heap := h', toks := tk }) (hn : b.size ≤ sizeLine) :
    wpAny (model prog w) A.in1 (Builtin.«list.__init__» ⟨[.ref S, .bytes b t], []⟩)
      (fun fin s' => match fin with | .done f => R (.ok f) s' | .again c' => c'.quiet = true ∧ codeAny (model prog w) A c' R s') (fun e s' => R (.error e) s') s := by
  show wpAny _ _ (do let old ← Builtin.List.listItems (.ref S); Builtin.List.listUpdate (.ref S) (fun _ => #[]); letGo old.toList.reverse; Builtin.List.listExtendWith (.ref S) (.bytes b t) .none) _ _ s
  refine wpAny_bind ?_
  unfold Builtin.List.listItems
  refine wpAny_bind (wpAny_seqItems hS rfl (wpAny_pure ?_))
  show wpAny _ _ (updateSeq S (fun _ => #[]) >>= fun _ => letGo (#[] : Array Value).toList.reverse >>= fun _ => Builtin.List.listExtendWith (.ref S) (.bytes b t) .none) _ _ s
  refine wpAny_bind (wpAny_updateSeq hS rfl ?_)
  have hS₂ := Heap.get?_update_self (Obj.mapSeq (fun _ => (#[] : Array Value))) hS rfl
  have oth : ∀ b o, b ≠ S → s.heap.get? b = some o → (s.heap.update S (Obj.mapSeq (fun _ => (#[] : Array Value)))).get? b = some o :=
    fun b o hb e => (Heap.get?_update_other _ _ (Ne.symm hb)).trans e
  refine wpAny_bind (wpAny_letGo ?_)
  refine extend_bytes (hn := hn) hh b t S .none _ hS₂ fun h' tk acc' c' hk hS' hacc => ?_
  exact hR h' tk acc' c' (fun b o hb e => hk b o hb (oth b o hb e)) hS' hacc

theorem call_list_bytes {Q : Value → Shared → Prop} (hh : A.handled = none) (b : Array UInt8) (t : Tok)
    (hQ : ∀ h' tk acc' c', (∀ b o, s.heap.get? b = some o → h'.get? b = some o) →
      h'.get? s.heap.objs.size = some { cls := .type "list", dict := none, data := .seq acc' c', slots := #[] } → ItemsOf (ByteAt b) acc' b.size → Q (.ref s.heap.objs.size) { s with heap := h', toks := tk }) (hn : b.size ≤ sizeLine) :
    wpAny (model prog w) A (call (.type "list") [.bytes b t]) Q E s := by
  refine callType_codes (Q₁ := fun obj s₁ => obj = .ref s.heap.objs.size ∧ s₁ = { s with heap := s.heap.push { cls := .type "list", data := .seq #[] } }) F.called_list (F.typeCall_list_1 _) F.entry_list_init
    (code_list_new _ ⟨rfl, rfl⟩) fun obj s₁ h₁ => ?_
  obtain ⟨rfl, rfl⟩ := h₁
  have hS : (s.heap.push { cls := .type "list", data := .seq #[] }).get? s.heap.objs.size = some { cls := .type "list", data := .seq #[] } := Heap.get?_push_size _ rfl
  refine ⟨⟨_, hS, rfl⟩, F.args_list_init_2 _ _, list_init_bytes (A := A.in1) (hn := hn) hh b t _ hS fun h' tk acc' c' hk hS' hacc => ?_⟩
  exact ⟨rfl, hQ h' tk acc' c' (fun b o e => hk b o (Nat.ne_of_lt (Heap.lt_size e)) (Heap.get?_push_of_some _ e)) hS' hacc⟩

theorem byte_ints {b : Array UInt8} : ∀ (vs : List Value) (l : List UInt8), vs.length = l.length → (∀ (j : Nat) (v : Value), vs[j]? = some v → ∃ c u, l[j]? = some c ∧ v = .int (c.toNat : Int) u) → IntsAre vs (l.map fun c => (c.toNat : Int))
  | [], [], _, _ => .nil
  | v :: vs, c :: l, hl, h => by
    obtain ⟨c', u, hc, rfl⟩ := h 0 v rfl
    obtain rfl : c = c' := Option.some.inj hc
    exact .cons _ _ (byte_ints (b := b) vs l (Nat.succ.inj hl) fun j v hv => h (j + 1) v hv)
  | [], _ :: _, hl, _ => absurd hl (by simp)
  | _ :: _, [], hl, _ => absurd hl (by simp)
theorem list_bytes {h₀ : Heap} {L : Addr} {m : Str → Option Value} {news : Led} {b : Array UInt8} {ks : List Int} {t : Tok} {Q : Value → Shared → Prop} (hh : A.handled = none) (F : Fr h₀ L s.heap m) (N : News h₀ L s.heap news) (hk : KBw.bInts b = ks) (hn : ks.length ≤ sizeLine)
    (hQ : ∀ D h' tk vs n, Fr h₀ L h' m → News h₀ L h' ((D, listOf (List.toArray vs) n) :: news) → (∀ p ∈ news, p.1 < D) → IntsAre vs ks → Q (.ref D) { s with heap := h', toks := tk }) :
    wpAny (model prog w) A (call (.type "list") [.bytes b t]) Q E s := by
  refine call_list_bytes hh b t (hn := by rw [← KBw.ints_length b, hk]; exact hn) fun h' tk acc' c' hk' hS' hacc => ?_
  have hin : IntsAre acc'.toList ks := by
    subst hk
    refine byte_ints (b := b) acc'.toList b.toList (by simp [hacc.1]) fun j v hv => ?_
    obtain ⟨c, u, hc, e⟩ := hacc.2 j v (by simpa using hv)
    exact ⟨c, u, by simpa using hc, e⟩
  refine hQ _ h' tk acc'.toList c' (F.keeps hk') (fun p hp => ?_) (fun p hp => Heap.lt_size (N p hp).1) hin
  rcases List.mem_cons.mp hp with rfl | hp
  · refine ⟨by rw [hS'], Nat.ne_of_gt F.ns.lt, ?_⟩
    cases e : h₀.get? s.heap.objs.size with
    | none => rfl
    | some o => exact absurd (Heap.lt_size (F.keep _ _ e)) (Nat.lt_irrefl _)
  · exact ⟨hk' _ _ (N p hp).1, (N p hp).2⟩
end
end
section
open PySem PySem.W PyProof.Rows PySem.Spec PySem.Calls
set_option maxRecDepth 100000
set_option maxHeartbeats 8000000
theorem cl_top : Cl ⟨.builtin "claim.caller" {}, none, none, [], none⟩ := ⟨by decide +kernel, fun x h => absurd h (List.not_mem_nil)⟩
theorem ends_top {prog : Program} {w : World} {t : Sem PySem.Fin} {s : Shared} {R : Result → Shared → Prop} (hreg : s.asleep) (hG : leftWithCleanup s.gens = false)
    (h : wpK (model prog w) callerA t (fun fin s' => ∃ f, fin = .done f ∧ (R (.ok f) s' ∧ s'.gens = #[])) (fun e s' => R (.error e) s' ∧ s'.gens = #[]) { s with gens := #[] }) :
    ∃ n r s', schedN (denote table) prog w n (.single s ⟨t, .builtin "claim.caller" {}, default, []⟩) = .halted (outcomeOf r) { s' with gens := s.gens } ∧ s'.heap.life = s.heap.life ∧ R r s' := by
  have h' : Sem.wp (model prog w) ⟨.builtin "claim.caller" {}, none, none, [], none⟩ t (Sem.finPost (model prog w) ⟨.builtin "claim.caller" {}, none, none, [], none⟩ fun r s' => (R r s' ∧ s'.gens = #[]) ∧ leftWithCleanup s'.gens = false)
      (fun e _ s' => (R (.error e) s' ∧ s'.gens = #[]) ∧ leftWithCleanup s'.gens = false) default { s with gens := #[] } := by
    refine Sem.wp_mono _ _ t (fun fin p' s' q => ?_) (fun e p' s' q => ⟨q, by rw [q.2]; simp [leftWithCleanup]⟩) default _ (h _ default caller_in cl_top)
    obtain ⟨f, rfl, q⟩ := q
    exact ⟨q, by rw [q.2]; simp [leftWithCleanup]⟩
  obtain ⟨n, r, s₁, hn, hR, hg⟩ := (wp_iff_halts (M := model prog w) (R := fun r s' => R r s' ∧ s'.gens = #[]) ..).mp h'
  obtain ⟨s₂, hr, hf, hc⟩ := runNI_real _ _ _ hn (outcomeOf_ends r)
  obtain rfl : s₂ = s₁ := Shared.eq_of_forget_eq hf hg
  exact ⟨n, r, s₂, sched_gens (s := { s with gens := #[] }) hG hr (outcomeOf_ends r) hg rfl hc hreg, runN_life (s := { s with gens := #[] }) _ _ _ hr, hR⟩
theorem spec_top {c : ClaimW} {tree : List Value → Sem PySem.Fin} {w : World} {s : Shared} {free : Addr → Prop} {gens : Prop} {kept : Heap → Prop} (hz : s.asleep) (hgens : s.gens = #[])
    (hspec : ∀ args, c.pre args = true → WData.layableAll args = true → ∀ ord : List DictEntry → List DictEntry, (∀ l, (ord l).Perm l) →
      ∃ vs s₁, layAllW c.records (classAt s.heap) w.params ord args s = some (vs, s₁) ∧
        wpK (model c.prog w) callerA (tree vs) (fun fin s' => ∃ f, fin = .done f ∧ (c.Ends s args vs s₁ (.ok f) s' ∧ s'.os = s.os ∧ s'.gens = #[] ∧ kept s'.heap))
          (fun e s' => c.Ends s args vs s₁ (.error e) s' ∧ s'.os = s.os ∧ s'.gens = #[] ∧ kept s'.heap) s₁) :
    c.CallFrom (fun vs => ⟨tree vs, .builtin "claim.caller" {}, default, []⟩) w free gens kept s := by
  intro args hpre hlay ord hord
  obtain ⟨vs, s₁, hlaid, hcode⟩ := hspec args hpre hlay ord hord
  have hal := layAllW_rest _ _ _ hlaid
  have hg : s₁.gens = #[] := hal.1.trans hgens
  have he : { s₁ with gens := #[] } = s₁ := by rw [← hg]
  obtain ⟨k, r, s', hsched, hlife, hcase, hos, hkp⟩ := ends_top (prog := c.prog) (w := w) (t := tree vs) (s := s₁) (R := fun r s' => c.Ends s args vs s₁ r s' ∧ s'.os = s.os ∧ kept s'.heap)
    (Shared.asleep_of_life hal.2.2.2 hz) (by rw [hg]; simp [leftWithCleanup]) (by rw [he]; exact hcode.mono (fun _ _ ⟨f, e, a, b, d, k⟩ => ⟨f, e, ⟨a, b, k⟩, d⟩) fun _ _ ⟨a, b, d, k⟩ => ⟨⟨a, b, k⟩, d⟩)
  refine ⟨vs, s₁, hlaid, k, _, _, hsched, ?_, (fun _ i x hx => by rw [← hx]; exact congrArg (·[i]?) hal.1), hkp, congrArg Life.seen (hlife.trans hal.2.2.2), Shared.rest_eq hos⟩
  rcases hcase with ⟨v, rfl, d1, d2, d3, d4, d5⟩ | ⟨e, ob, cls, rfl, d1, d2, d3, d4, d5⟩
  · exact .inl ⟨v, rfl, d1, d2, d3, fun b o y _ => d4 b o y, d5⟩
  · exact .inr ⟨e, ob, cls, rfl, d1, d2, d3, d4, fun b o y _ => d5 b o y⟩
noncomputable abbrev WalkK (d : DefRec) (kwd : List (Str × PySem.Expr)) : Prop :=
  ∀ (w : World) (s₀ s₁ : Shared) (mg mb : Str → Option Value), Ground q9 [Str.ofString "Whitespace"] R9.records (XL q9 []) w s₀ mg mb s₁.heap → H9.says w s₁.heap → ∀ (a : Addr) (o : Obj) (pm cd doc dV kV : Value), s₁.heap.get? a = some o →
    o.data = .func { docDef d.name d.params d.body d.scope pm cd doc with defaults := dV, kwdefaults := kV } → s₁.heap.CodeRec cd d.name → Dflts mg s₁.heap d.params kwd dV kV → mg d.name = some (.ref a) → s₁.gens = #[] →
    ∀ (args : List WData) (vals : List Value) (as : List Addr), R9.claim.pre args = true → WData.layableAll args = true → ReadsAllW R9.records (classAt s₀.heap) s₁.heap vals args as → WellAll w.params s₁.heap vals args → (∀ a ∈ as, (a == sysModules) = false) →
      wpK (model R9.prog w) callerA (PySem.call (.ref a) vals) (fun v s' => GoodWG R9.claim (classAt s₀.heap) (ExcName.means s₀.heap) args s₁ (.ok (.ret v)) s' ∧ s'.gens = #[]) (fun _ _ => False) s₁
theorem tree_top {vs : List Value} {w : World} {s : Shared} {mg : Str → Option Value} {f : Value} {name : Str} {Q : PySem.Fin → Shared → Prop} {E : Value → Shared → Prop} (hg : s.heap.Ns mainGlobals mg) (hf : mg name = some f)
    (h : wpK (model R9.prog w) callerA (PySem.call f vs) (fun v s' => Q (.done (.ret v)) s') E s) : wpK (model R9.prog w) callerA (do match ← nsGet mainNs name with
      | some f => do ret (← PySem.call f vs)
      | none => unsupported "claim.caller:no-such-global") Q E s := by
  refine .bind1 (wpAny_nsGet hg ?_)
  rw [hf]
  exact .bind (h.mono (fun _ _ x => .of (wpAny_pure x)) fun _ _ x => x)
theorem hd_top (walk : ∀ (d : DefRec) (kwd : List (Str × PySem.Expr)), defOf q9 (Str.ofString "law") = some (d, kwd) → WalkK d kwd) : PySem.Challenge.rw_xp0027_01.Holds := by
  refine holds_law (by decide +kernel) fun said => ?_
  have hw : R9.promised := ⟨[.list []], by decide +kernel, by decide +kernel⟩
  have hb : R9.prog.bare := ⟨rfl, rfl, rfl, rfl, rfl, by decide +kernel⟩
  have ok : (chainsOk q9 && opensWell R9.prog && (frees R9 && R9.within.isEmpty)) = true := by decide +kernel
  obtain ⟨ok, k5⟩ := Bool.and_eq_true_iff.mp ok
  obtain ⟨hch, o1⟩ := Bool.and_eq_true_iff.mp ok
  obtain ⟨k5, k6⟩ := Bool.and_eq_true_iff.mp k5
  obtain ⟨hsame, hu, ha, hap, hm⟩ := frees_parts k5
  have hwi : R9.claim.within = [] := List.isEmpty_iff.mp k6
  have hi := ident_freeW hu ha hap
  have hd : ∃ d kwd, defOf q9 (Str.ofString "law") = some (d, kwd) ∧ R9.prog.theDef (Str.ofString "law") = some (d.params, d.body, d.scope) ∧ kwWritten? d.params.kwonlyargs d.params.kw_defaults = some kwd := ⟨_, _, rfl, rfl, rfl⟩
  obtain ⟨d, kwd, hdef, hp, hk⟩ := hd
  have behind := fun w => left9.behind (XP := fun mg h => XL q9 [] mg h ∧ RecFacts R9.records h) (fun s e => ⟨xl_of s (Bool.and_eq_true_iff.mp e).1, recFacts_of (Bool.and_eq_true_iff.mp e).2⟩) hch w
  refine ⟨said, hw, ⟨hb, o1, rfl⟩, hw.witness, fun w => ⟨(behind w).1, fun s' hs' => ?_⟩⟩
  obtain ⟨s₀, hf, hg0, s, hT, hz, hgens, hg, G00, y⟩ := (behind w).2 s' hs'
  have G0 : Ground q9 [Str.ofString "Whitespace"] [] (XL q9 []) w s (s.heap.nsMap mainGlobals) (s.heap.nsMap builtinsNs) s.heap := ⟨G00.T, G00.B, G00.D, G00.TE, G00.TD, G00.W, G00.X.1, G00.cls, G00.has, G00.apart, G00.once, G00.K⟩
  have RF := G00.X.2
  have hgens' : s.gens = #[] := Array.eq_empty_of_size_eq_zero (beq_iff_eq.mp hgens)
  have G : Ground q9 [Str.ofString "Whitespace"] R9.records (XL q9 []) w s _ _ s.heap := RF.ground G0
  refine ⟨s₀, hf, hg0, s, hT, ?pin, RF.1, RF.2.1, ?_⟩
  · intro n hn
    obtain rfl : n = Str.ofString "law" := by
      split at hn
      · exact List.mem_singleton.mp hn
      · exact absurd hn List.not_mem_nil
    exact pinned_of_view hg G0 hdef hp hk
  · refine spec_top (c := R9.claim) hz hgens' fun args hpre hlay ord hord => ?_
    obtain ⟨⟨vs, s₁⟩, hlaid⟩ := Option.isSome_iff_exists.mp (layAllW_isSome (P := w.params) (ord := ord) G.has args R9.args s (pre_splitW hpre).1)
    have keeps := layAllW_keeps _ _ _ hlaid
    have hal := layAllW_rest _ _ _ hlaid
    obtain ⟨as, hrd, hin, hold⟩ := reads_layAllW hord _ _ _ hlaid hlay s₁.heap (fun _ _ e => e)
    have L : Laid R9.records w s s₁ args vs as := ⟨⟨ord, hord, hlaid⟩, hrd, hin, hold, keeps, hal.1.trans hgens', hal.2.2.1⟩
    have G₁ := G.keeps XL.keeps keeps
    obtain ⟨a, o, pm, cd, doc, dV, kV, h1, h2, h3, h4, h5⟩ := G₁.fn hdef
    have hn := defOf_name hdef
    have call := walk d kwd hdef w s s₁ _ _ G₁ (Hook.keeps H9 _ _ _ (Hook.of H9 w s y) keeps) a o pm cd doc dV kV h2 h3 h4 h5 (hn ▸ h1) L.gens args vs as hpre hlay L.reads L.well (L.low G.low)
    refine ⟨vs, s₁, hlaid, tree_top G₁.T.g h1 (call.mono (fun v s' g => ⟨_, rfl, ?_⟩) fun _ _ x => x.elim)⟩
    have z := g.1.laid (c := R9.claim) hsame hwi hi L
    exact ⟨z.1, z.2.1, g.2, fun q => ⟨namesKept_of hT hg _ keeps g.1.2.1.old, noTable (by rfl) q⟩⟩
end
section
open PySem PySem.W PyProof.Rows PySem.Spec PySem.Calls
set_option maxRecDepth 100000
set_option maxHeartbeats 8000000

theorem fill_all (w : World) : ∀ h : Heap, (K9 w.params).In h → PySem.Challenge.rw_xp0027_01.row.prog = PySem.Challenge.rw_xp0027_01.row.prog := by
  k_fill
  intros; rfl
local macro_rules | `(tactic| walk_at $s:str) => `(tactic| k_extra $s)
local macro_rules | `(tactic| k_mem) => `(tactic| k_extra "k_mem")
local macro_rules | `(tactic| k_all) => `(tactic| k_extra "k_all")
local macro_rules | `(tactic| k_ne) => `(tactic| k_extra "k_ne")
local macro_rules | `(tactic| omega) => `(tactic| k_extra "omega")
local macro_rules | `(tactic| k_lt $h:ident) => `(tactic| k_extra "k_lt")
section
theorem isub_con {w : World} {a b : Int} {t u : Tok} : Con w 1 49 [.int a t, .int b u] [] [] (PInt (a - b)) := by
  (k_with "omega" => first | exact unitA (by assumption) rfl | exact unitB (by assumption) | exact roomA (by assumption) rfl | exact roomB (by assumption))
  (k_with "my suf" => (intro _ hp; repeat' first | exact hp | refine List.Mem.tail _ ?_))
  (k_with "my sub" => first | exact all_nil | (refine' all_cons ?_ ?_; (· k_mem); walk_at "my sub") | walk_at "my suf")
  (k_with "CompRest" => (with_unfolding_all first
      | (refine LCg.CompRest.succ ?_; intro v₉ I₉ oI₉ C₉ oC₉ D₉ m₉ h₉ tk₉ E₉ hv₉ hC₉ hx₉ F₉ N₉ off₉ ne₉; (first | lcg_open hv₉ | (obtain ⟨t9₉, hv9₉⟩ := hv₉; subst hv9₉)); clear ne₉; (try k_sweep); (try dsimp only); (try k_fold))
      | refine LCg.CompRest.zero ?_))
  (k_with "CompEnd" => ((try dsimp only); first
      | refine ce0 (by assumption) (by assumption) (by assumption) (by lcg_src) ?_
      | refine ce1 (by assumption) (by assumption) (by k_ne) (by k_ne) (by k_ne) (by assumption) (by lcg_src) ?_))
  (k_with "my for" => (k_here; (rename Fr _ _ _ _ => lF₉); (with_unfolding_all refine' For_turns lF₉ ?_; k_whole)))
  (k_with "exec For Tuple Attribute cons nil" => walk_at "my for")
  (k_with "exec For Name Name cons nil" => walk_at "my for")
  (k_with "pyIter ref" => (k_here; (with_reducible show wpAny _ _ (pyIter (Value.ref _)) (fun it s₂ => TurnsAt _ _ _ _ _ _ _ _ _ it s₂) _ _); ktu_seq))
  (k_with "k_ne" => (refine neN ?_; (try dsimp only); first | exact Apt.ne (by assumption) | exact Apt.symm (by assumption) | exact AptL.ne (by assumption) (by k_mem) | exact AptL.ne' (by assumption) (by k_mem) | exact ne_m1 (by assumption) (by k_mem) | exact ne_m2 (by assumption) (by k_mem) | omega))
  (k_with "eval Dict cons cons" => (k_here; k_dflt (refine' kdn_eval (knd := PySem.intKind _ _) ?w₉F ?w₉N ?w₉b ?w₉a ?w₉l ?w₉e ?w₉n ?_; (case w₉F => k_asm); (case w₉N => first | k_asm | exact News.nil); (case w₉b => exact Top.nolimit (by k_asm)); (case w₉a => rfl); (case w₉l => rfl); (case w₉e => exact List.cons_ne_nil _ _); (case w₉n => exact Nat.le_of_ble_eq_true rfl)); intro d₉ h₉ o₉ F₉ N₉ l1₉ lo₉ hd₉; (try k_lt l1₉)))
  (k_with "my apt1" => first | exact all_nil | (refine' all_cons ?_ ?_; (· k_ne); walk_at "my apt1"))
  (k_with "my apt" => first | exact all_nil | (refine' all_cons ?_ ?_; (· walk_at "my apt1"); walk_at "my apt"))
  (k_with "my aptl" => ((with_reducible rename (∀ p ∈ _, AptL _ _) => zZ); first | (replace zZ := aptl_nil zZ; clear zZ) | (have zY := aptl_head zZ; replace zZ := aptl_tail zZ; (try dsimp only at zY); walk_at "my aptl")))
  (k_with "my apt2" => first | exact all_nil | (refine' all_cons ?_ ?_; (· exact ⟨Apt.mk (by k_ne), Apt.mk (by k_ne)⟩); walk_at "my apt2"))
  (k_with "call type:list" => (k_here; (with_reducible show wpAny _ _ (call (Value.type _) [Value.ref _]) _ _ _); k_dflt (refine' list_copyK ?w₉F ?w₉N (News.isList ?w₉N2 ?w₉m) ?_ ?w₉z; (case w₉F => k_asm); (case w₉N => k_asm); (case w₉N2 => k_asm); (case w₉m => k_mem); (case w₉z => first | assumption | exact Nat.le_of_ble_eq_true rfl)); intro D₉ c₉ h₉ F₉ N₉ l1₉; (try k_lt l1₉)))
  (k_with "call type:dict" => (k_here; (with_reducible show wpAny _ _ (call (Value.type _) [Value.ref _]) _ _ _); k_dflt (refine' dict_copy (knd := PySem.intKind _ _) ?w₉F ?w₉N (Top.nolimit ?w₉t) ?w₉m ?w₉l ?w₉d ?w₉z ?_; (case w₉F => k_asm); (case w₉N => k_asm); (case w₉t => k_asm); (case w₉m => k_mem); (case w₉l => assumption); (case w₉d => assumption); (case w₉z => first | assumption | exact Nat.le_of_ble_eq_true rfl)); intro D₉ h₉ o₉ F₉ N₉ l1₉ lo₉ hd₉; (try k_lt l1₉)))
  (k_with "my enter" => (refine' code_def ?w₉k1 ?w₉k2 ?w₉k3 ?w₉k4 ?w₉k5 ?w₉kA ?w₉kF ?w₉kK ?w₉k6 ?w₉k7 ?w₉k8 ?w₉k9 ?w₉kB ?_ ?w₉c2 ?w₉c3 ?w₉c4 ?w₉c5; (case w₉kA => exact rfl); (case w₉kF => exact rfl); (case w₉kK => first | exact rfl | assumption); (case w₉k1 => k_asm); (case w₉k2 => k_asm); (case w₉k3 => k_asm); (case w₉k4 => k_asm); (case w₉k5 => k_asm); (case w₉k6 => k_is); (case w₉k7 => k_is); (case w₉k8 => (first | omega | ktr_room)); (case w₉k9 => exact BindsTo.of_eq rfl); (case w₉c5 => decide); (case w₉kB => exact locs rfl); (case w₉c2 => exact rfl); (case w₉c3 => exact rfl); (case w₉c4 => exact rfl); k_whole; intro g₉ L₉ h₉ FG₉ F₉ N₉ B₉ X₉ T₉; (try dsimp only); (try k_fold)))
  (k_with "call ref" => (k_here; k_dflt (refine' call_cls ?w₉k1 ?w₉k2 ?w₉k3 ?w₉k4 ?w₉k5 ?w₉k6 ?_; (case w₉k1 => k_asm); (case w₉k2 => k_asm); (case w₉k3 => k_asm); (case w₉k4 => k_is); (case w₉k5 => k_is); (case w₉k6 => k_is); k_whole; intro x₉ d₉ h₉ F₉ N₉ l1₉ l2₉; (try k_lt l1₉); (try k_lt2 l2₉); (try k_sweep); walk_at "my enter")))
  (k_with "eval ListComp" => (k_here; k_dflt (refine LCg.ListComp_U (F₀ := by k_asm) (by with_unfolding_all rfl) (by decide) (by rfl) (by decide) (by rfl) ?_); k_dflt lcg_toSrc))
  (k_with "exec Assign cons ListComp" => (k_here; k_dflt (refine LCg.Assign_ListComp_U (F₀ := by k_asm) (by rfl) (by with_unfolding_all rfl) (by with_unfolding_all rfl) (by decide) (by rfl) (by decide) (by rfl) (by rfl) (by rfl) ?_); k_dflt lcg_toSrc))
  (k_with "CompSrc" => (k_here; k_dflt (first
      | (refine LCg.CompSrc.ledger (by rfl) (by k_asm) (by k_asm) (by k_mem) (by first | size_fits | exact Nat.le_of_ble_eq_true rfl) ?_; intro g₉; lcg_lit)
      | (refine LCg.CompSrc.range (by rfl) (by k_asm) (by k_asm) (by assumption) (by first | decide | rfl) (by first | rfl | decide) (by first | size_fits | exact Nat.le_of_ble_eq_true rfl) ?_; intro g₉; lcg_lit))))
  (k_with "FinE" => ((unfold LCg.FinE); intro D₉ h₉ tk₉ F₉ N₉ o1₉; (replace o1₉ := off1_aptl o1₉); (try k_sweep); (try simp only [List.nil_append, List.cons_append] at N₉); (try dsimp only)))
  (k_with "FinA" => ((unfold LCg.FinA); intro D₉ h₉ tk₉ F₉ N₉ o1₉; (replace o1₉ := off1_aptl o1₉); (try k_sweep); (try simp only [List.nil_append, List.cons_append] at N₉); (try dsimp only)))
  (k_with "ItemsRest" => ((with_unfolding_all refine ItemsRest.val (fun h₉ tk₉ F₉ => ?_)); ktu_objs; (try k_sweep); (try dsimp only); (try k_fold)))
  (k_with "eval BinOp" => refine wpAny_BinOp ?_)
  (k_with "eval Subscript" => refine Subscript_ ?_)
  (k_with "eval Call" => ((with_reducible show wpAny _ _ (eval (Expr.Call (Expr.Name _ _) _ [] _) _) _ _ _); refine Call_ ?_))
  (k_with "spliced" => first | refine args_cons ?_ | (refine args_nil ?_; try simp only [List.cons_append, List.nil_append]))
  (k_with "execs cons" => ((with_reducible refine wpAny_execs_cons ?_); (try dsimp only)))
  (k_with "storeName" => (k_here; k_dflt (first
      | (refine' storeX_L ?w₉F ?w₉N ?_ ?w₉a ?w₉b; (case w₉F => k_asm); (case w₉N => k_asm); (case w₉a => rfl); (case w₉b => rfl); k_whole; intro h₉ F₉ N₉; (try k_sweep))
      | (refine' storeX_C ?w₉F ?w₉N ?w₉c ?w₉U ?w₉d ?_ ?w₉a ?w₉b; (case w₉a => rfl); (case w₉b => rfl); (case w₉F => k_asm); (case w₉N => k_asm); (case w₉c => rfl); (case w₉U => k_updF); (case w₉d => k_asm); k_whole; intro h₉ o₉ F₉ N₉ d₉; (try dsimp only at N₉); (try k_sweep)))))
  (k_with "callWith ref" => (k_here; k_dflt (refine' callWith_K ?w₉k1 ?w₉k2 ?_; (case w₉k1 => k_asm); (case w₉k2 => k_is); k_whole)))
  (k_with "call builtin:min" => ((with_reducible show wpAny _ _ (call (Value.builtin _) [Value.int _ _, Value.int _ _]) _ _ _); (rename News _ _ _ _ => N₉); (with_unfolding_all apply min_two_N); (case hh => with_unfolding_all rfl); (case N => exact N₉); (case F => assumption); clear N₉; intro _ _ _ _; (try k_sweep); (try dsimp only)))
  (k_with "call builtin:len" => (k_here; (with_reducible show wpAny _ _ (call (Value.builtin "len") [Value.ref _]) _ _ _); k_dflt (refine' kun_lenL ?w₉k1 ?w₉k2 ?w₉k3 ?_; (case w₉k1 => exact News.isList (by k_asm) (by k_mem)); (case w₉k2 => kun_count); (case w₉k3 => decide); k_whole)))
  (k_with "eval Name" => (k_here; k_dflt (first
      | (refine' nameX_L ?w₉F ?w₉v ?_ ?w₉a ?w₉b; (case w₉F => k_asm); (case w₉a => rfl); (case w₉b => rfl); (case w₉v => first | exact rfl | (with_reducible assumption) | assumption); k_whole)
      | (refine' nameX_C ?w₉N ?w₉c ?w₉m ?w₉d ?_ ?w₉a ?w₉b; (case w₉a => rfl); (case w₉b => rfl); (case w₉N => k_asm); (case w₉c => rfl); (case w₉m => k_mem); (case w₉d => k_asm); k_whole)
      | (refine' nameX_K ?w₉F ?w₉X ?w₉T ?w₉e ?_ ?w₉a ?w₉b; (case w₉F => k_asm); (case w₉X => k_asm); (case w₉T => k_asm); (case w₉a => rfl); (case w₉b => rfl); (case w₉e => k_is); k_whole)
      | (refine' nameX_B ?w₉F ?w₉X ?w₉T ?w₉e ?w₉v ?w₉n ?_ ?w₉a ?w₉b; (case w₉F => k_asm); (case w₉X => k_asm); (case w₉T => k_asm); (case w₉a => rfl); (case w₉b => rfl); (case w₉e => k_is); (case w₉v => boot_fast); (case w₉n => decide); k_whole))))
  (k_with "eval Name" => (k_here; (with_reducible show wpAny _ _ (eval (Expr.Name _ _) (compEnvC _ _ _ _)) _ _ _); k_dflt (first
      | (refine' LCgL.ld_own ?w₉N ?w₉m ?w₉d ?w₉x ?_ ?w₉a ?w₉b ?w₉c; (case w₉a => rfl); (case w₉b => rfl); (case w₉c => decide); (case w₉N => k_asm); (case w₉m => k_mem); (case w₉d => assumption); (case w₉x => assumption); k_whole)
      | (refine' lcf_cell ?w₉N ?w₉c ?w₉m ?w₉d ?_ ?w₉a ?w₉b; (case w₉a => rfl); (case w₉b => rfl); (case w₉N => k_asm); (case w₉c => rfl); (case w₉m => k_mem); (case w₉d => k_asm); k_whole)
      | (refine' lcf_free ?w₉N ?w₉c ?w₉m ?w₉d ?_ ?w₉a ?w₉b; (case w₉a => rfl); (case w₉b => rfl); (case w₉N => k_asm); (case w₉c => rfl); (case w₉m => k_mem); (case w₉d => k_asm); k_whole)
      | refine LCgL.ld_global (by k_asm) (by k_asm) (by k_asm) (by k_is) ?_
      | refine LCgL.ld_built (by k_asm) (by k_asm) (by k_asm) (by k_is) (by boot_by_name) (by decide) ?_)))
  (k_with "my lit" => (k_here; (with_reducible show wpAny _ _ (subscriptTail _ _ (Value.ref _) (Value.int _ _)) _ _ _); k_dflt (first
      | (refine' item_tupleT ?w₉t ?w₉a ?w₉b ?w₉c ?w₉d ?_; (case w₉t => exact News.isTup (by k_asm) (by k_mem)); (case w₉a => decide); (case w₉b => decide); (case w₉c => rfl); (case w₉d => rfl); k_whole)
      | (refine' item_sym ?w₉N ?w₉m ?w₉a ?w₉b ?w₉x ?_; (case w₉N => k_asm); (case w₉m => k_mem); (case w₉a => decide); (case w₉b => decide); (case w₉x => rfl); k_whole))))
  (k_with "subscriptTail" => walk_at "my lit")
  (k_with "subscriptTail Name Name ref int" => walk_at "my lit")
  (k_with "subscriptTail Name BinOp ref int" => walk_at "my lit")
  (k_with "subscriptTail Name Constant ref int" => walk_at "my lit")
  (k_with "ite" => (refine ite_bne ?w₉hE ?_; (case w₉hE => with_reducible assumption)))
  (k_with "k_mem" => ((fail_if_success (refine List.Mem.tail _ ?_)); refine mem_of ?_; with_reducible assumption))
  (k_with "k_all" => exact all_ne_lt (by assumption) (by omega))
  refine con_gen (fun P' hPP => ?_)
  refine' con_plain (binds := [(_, _), (_, _)]) ?ho ?hfd ?hcd ?hb ?hl ?c1 ?c2 ?c3 ?c4 ?hh; (case ho => k_dflt k_is); (case hfd => refine' fd_lit ?x1 ?x2 ?x3; (case x1 => (conv => lhs; whnf)); (case x2 => (conv => lhs; whnf)); (case x3 => (conv => lhs; whnf))); (case hcd => k_dflt k_is); (case hb => exact rfl); (case hl => exact locs rfl); (case c1 => exact rfl); (case c2 => exact rfl); (case c3 => exact rfl); (case c4 => decide)
  intro loose mean mg mb dp un gd outer A₀ base g L h₁ s₀ tk Q₀ hq₀ hn₀ B F X N T hd hu
  (try simp only [List.cons_append, List.nil_append, List.append_nil] at N)
  (try dsimp only [List.reverse, List.reverseAux] at F)
  (try dsimp only)
  (try k_fold)
  (first | (refine letAE ?_; intro A9 E9) | skip)
  repeat' (first | (k_unfold; (try dsimp only)) | (with_reducible refine hideQ ?_; intro Q9 hQ9) | (with_reducible refine hideQ2 ?_; intro Q9 hQ9) | (with_reducible refine hQ9 _ _ ?_; try clear hQ9 Q9) | walk1 | (dsimp only; walk1) | (dsimp only; k_unfold; (try dsimp only)) | fail "no step")
  all_goals ((first | refine' retN hq₀ [] (by k_asm) (by k_asm) ?n1 ?n2 ?n3 (hPP _ _ (.mk _)) | refine' retV hn₀ [] (by k_asm) (by k_asm) ?n1 ?n2 ?n3 (hPP _ _ (.mk _))); (case n1 => (first | walk_at "my sub" | fail "my sub")); (case n2 => (first | walk_at "my sub" | fail "my sub")); (case n3 => (first | walk_at "my apt" | fail "my apt")))
theorem iadd_con {w : World} {a b : Int} {t u : Tok} : Con w 1 42 [.int a t, .int b u] [] [] (PInt (a + b)) := by
  refine con_gen (fun P' hPP => ?_)
  refine' con_plain (binds := [(_, _), (_, _)]) ?ho ?hfd ?hcd ?hb ?hl ?c1 ?c2 ?c3 ?c4 ?hh; (case ho => k_dflt k_is); (case hfd => refine' fd_lit ?x1 ?x2 ?x3; (case x1 => (conv => lhs; whnf)); (case x2 => (conv => lhs; whnf)); (case x3 => (conv => lhs; whnf))); (case hcd => k_dflt k_is); (case hb => exact rfl); (case hl => exact locs rfl); (case c1 => exact rfl); (case c2 => exact rfl); (case c3 => exact rfl); (case c4 => decide)
  intro loose mean mg mb dp un gd outer A₀ base g L h₁ s₀ tk Q₀ hq₀ hn₀ B F X N T hd hu
  (try simp only [List.cons_append, List.nil_append, List.append_nil] at N)
  (try dsimp only [List.reverse, List.reverseAux] at F)
  (try dsimp only)
  (try k_fold)
  (first | (refine letAE ?_; intro A9 E9) | skip)
  repeat' (first | (k_unfold; (try dsimp only)) | (with_reducible refine hideQ ?_; intro Q9 hQ9) | (with_reducible refine hideQ2 ?_; intro Q9 hQ9) | (with_reducible refine hQ9 _ _ ?_; try clear hQ9 Q9) | walk1 | (dsimp only; walk1) | (dsimp only; k_unfold; (try dsimp only)) | fail "no step")
  all_goals ((first | refine' retN hq₀ [] (by k_asm) (by k_asm) ?n1 ?n2 ?n3 (hPP _ _ (.mk _)) | refine' retV hn₀ [] (by k_asm) (by k_asm) ?n1 ?n2 ?n3 (hPP _ _ (.mk _))); (case n1 => (first | walk_at "my sub" | fail "my sub")); (case n2 => (first | walk_at "my sub" | fail "my sub")); (case n3 => (first | walk_at "my apt" | fail "my apt")))
theorem neg_con {w : World} {a : Int} {t : Tok} : Con w 1 35 [.int a t] [] [] (PInt (-a)) := by
  refine con_gen (fun P' hPP => ?_)
  refine' con_plain (binds := [(_, _)]) ?ho ?hfd ?hcd ?hb ?hl ?c1 ?c2 ?c3 ?c4 ?hh; (case ho => k_dflt k_is); (case hfd => refine' fd_lit ?x1 ?x2 ?x3; (case x1 => (conv => lhs; whnf)); (case x2 => (conv => lhs; whnf)); (case x3 => (conv => lhs; whnf))); (case hcd => k_dflt k_is); (case hb => exact rfl); (case hl => exact locs rfl); (case c1 => exact rfl); (case c2 => exact rfl); (case c3 => exact rfl); (case c4 => decide)
  intro loose mean mg mb dp un gd outer A₀ base g L h₁ s₀ tk Q₀ hq₀ hn₀ B F X N T hd hu
  (try simp only [List.cons_append, List.nil_append, List.append_nil] at N)
  (try dsimp only [List.reverse, List.reverseAux] at F)
  (try dsimp only)
  (try k_fold)
  (first | (refine letAE ?_; intro A9 E9) | skip)
  repeat' (first | (k_unfold; (try dsimp only)) | (with_reducible refine hideQ ?_; intro Q9 hQ9) | (with_reducible refine hideQ2 ?_; intro Q9 hQ9) | (with_reducible refine hQ9 _ _ ?_; try clear hQ9 Q9) | walk1 | (dsimp only; walk1) | (dsimp only; k_unfold; (try dsimp only)) | fail "no step")
  all_goals ((first | refine' retN hq₀ [] (by k_asm) (by k_asm) ?n1 ?n2 ?n3 (hPP _ _ (.mk _)) | refine' retV hn₀ [] (by k_asm) (by k_asm) ?n1 ?n2 ?n3 (hPP _ _ (.mk _))); (case n1 => (first | walk_at "my sub" | fail "my sub")); (case n2 => (first | walk_at "my sub" | fail "my sub")); (case n3 => (first | walk_at "my apt" | fail "my apt")))
theorem gt_con {w : World} {a b : Int} {t u : Tok} : Con w 1 28 [.int a t, .int b u] [] [] (PBool (decide (b < a))) := by
  refine con_gen (fun P' hPP => ?_)
  refine' con_plain (binds := [(_, _), (_, _)]) ?ho ?hfd ?hcd ?hb ?hl ?c1 ?c2 ?c3 ?c4 ?hh; (case ho => k_dflt k_is); (case hfd => refine' fd_lit ?x1 ?x2 ?x3; (case x1 => (conv => lhs; whnf)); (case x2 => (conv => lhs; whnf)); (case x3 => (conv => lhs; whnf))); (case hcd => k_dflt k_is); (case hb => exact rfl); (case hl => exact locs rfl); (case c1 => exact rfl); (case c2 => exact rfl); (case c3 => exact rfl); (case c4 => decide)
  intro loose mean mg mb dp un gd outer A₀ base g L h₁ s₀ tk Q₀ hq₀ hn₀ B F X N T hd hu
  (try simp only [List.cons_append, List.nil_append, List.append_nil] at N)
  (try dsimp only [List.reverse, List.reverseAux] at F)
  (try dsimp only)
  (try k_fold)
  (first | (refine letAE ?_; intro A9 E9) | skip)
  repeat' (first | (k_unfold; (try dsimp only)) | (with_reducible refine hideQ ?_; intro Q9 hQ9) | (with_reducible refine hideQ2 ?_; intro Q9 hQ9) | (with_reducible refine hQ9 _ _ ?_; try clear hQ9 Q9) | walk1 | (dsimp only; walk1) | (dsimp only; k_unfold; (try dsimp only)) | fail "no step")
  all_goals ((first | refine' retN hq₀ [] (by k_asm) (by k_asm) ?n1 ?n2 ?n3 (hPP _ _ .mk) | refine' retV hn₀ [] (by k_asm) (by k_asm) ?n1 ?n2 ?n3 (hPP _ _ .mk)); (case n1 => (first | walk_at "my sub" | fail "my sub")); (case n2 => (first | walk_at "my sub" | fail "my sub")); (case n3 => (first | walk_at "my apt" | fail "my apt")))

end
section
inductive PCallers (w : World) (c0 c1 c2 c3 : Int) : Value → Led → Prop
  | mk (d : Addr) (o : Obj) (t0 t1 t2 t3 : Tok) (l : (d == sysModules) = false) (h : o.IsDictOf (intKind PP w) [(0, .int c0 t0), (1, .int c1 t1), (2, .int c2 t2), (3, .int c3 t3)]) : PCallers w c0 c1 c2 c3 (.ref d) [(d, o)]
theorem PCallers.el {w : World} {c0 c1 c2 c3 : Int} (K : Value → Led → Prop) (k : ∀ d o t0 t1 t2 t3, (d == sysModules) = false → Obj.IsDictOf (intKind PP w) o [(0, .int c0 t0), (1, .int c1 t1), (2, .int c2 t2), (3, .int c3 t3)] → K (.ref d) [(d, o)]) (r : Value) (A : Led) (h : PCallers w c0 c1 c2 c3 r A) : K r A := by cases h; exact k _ _ _ _ _ _ (by assumption) (by assumption)
noncomputable def c4 {α : Type} (n : Int) (a b c d : α) : α := if n = 0 then a else if n = 1 then b else if n = 2 then c else d
theorem n4 {n : Int} (h : 0 ≤ n ∧ n < 4) : n = 0 ∨ n = 1 ∨ n = 2 ∨ n = 3 := by omega
theorem val4 {n c0 c1 c2 c3 : Int} {v0 v1 v2 v3 : Tok} (h : 0 ≤ n ∧ n < 4) : valueAt [(0, Value.int c0 v0), (1, .int c1 v1), (2, .int c2 v2), (3, .int c3 v3)] n = some (.int (c4 n c0 c1 c2 c3) (c4 n v0 v1 v2 v3)) := by
  rcases n4 h with rfl | rfl | rfl | rfl <;> rfl
theorem PCallers.of {w : World} {n c0 c1 c2 c3 x : Int} {v0 v1 v2 v3 t : Tok} {d : Addr} {o : Obj} (hn : 0 ≤ n ∧ n < 4) (l : (d == sysModules) = false) (h : o.IsDictOf (intKind PP w) (stored [(0, Value.int c0 v0), (1, .int c1 v1), (2, .int c2 v2), (3, .int c3 v3)] n (.int (c4 n c0 c1 c2 c3 + x) t))) :
    PCallers w (c0 + if n = 0 then x else 0) (c1 + if n = 1 then x else 0) (c2 + if n = 2 then x else 0) (c3 + if n = 3 then x else 0) (.ref d) [(d, o)] := by
  rcases n4 hn with rfl | rfl | rfl | rfl <;> exact .mk _ _ _ _ _ _ l (by simpa [stored, c4] using h)
theorem kda_get {prog : Program} {w : World} {A : Around} {E : Value → Shared → Prop} {s : Shared} {h₀ : Heap} {L d : Addr} {o : Obj} {news : Led} {K : Type} [DecidableEq K] {knd : KeyKind prog w K} {kvs : List (K × Value)} {k : K} {key v : Value} {Q : Value → Shared → Prop} (N : News h₀ L s.heap news) (hp : (d, o) ∈ news) (hd : o.IsDictOf knd kvs) (hkey : knd.is k key = true) (hl : valueAt kvs k = some v) (h : Q v { s with toks := s.toks + 1 }) :
    wpAny (model prog w) A (getItem (.ref d) key) Q E s := wpAny_getItem_of hkey (kda_dict N hp hd).mapOf hl h
section
theorem add_callers_con {w : World} {ta sa : Addr} {ot os : Obj} {n c0 c1 c2 c3 x : Int} {v0 v1 v2 v3 vv : Tok} (hn : 0 ≤ n ∧ n < 4)
  (lt : (ta == sysModules) = false) (lsa : (sa == sysModules) = false)
  (ht : ot.IsDictOf (intKind PP w) [(0, .int c0 v0), (1, .int c1 v1), (2, .int c2 v2), (3, .int c3 v3)]) (hs : os.IsDictOf (intKind PP w) [(n, .int x vv)]) :
  Con w 1 91 [.ref ta, .ref sa] [] [(ta, ot), (sa, os)]
    (PCallers w (c0 + if n = 0 then x else 0) (c1 + if n = 1 then x else 0) (c2 + if n = 2 then x else 0) (c3 + if n = 3 then x else 0)) := by
  (k_with "left 2" => skip)
  (k_with "k_lt" => (fail_if_success k_extra "left 3"); (skip))
  (k_with "getItem ref int" => (fail_if_success k_extra "left 4"); ((k_here; k_dflt (refine' kda_get (knd := PySem.intKind _ _) ?w₉N ?w₉m hd9 (intKind_is _ _ _ _) hV ?_; (case w₉N => k_asm); (case w₉m => k_mem)))))
  (k_with "setItem ref int" => (fail_if_success k_extra "left 4"); ((k_here; k_dflt (refine' kda_set (knd := PySem.intKind _ _) ?w₉F ?w₉N ?w₉U hd9 (intKind_is _ _ _ _) ?w₉z ?_; (case w₉F => k_asm); (case w₉N => k_asm); (case w₉U => k_updF); (case w₉z => exact Nat.le_trans (stored_len _ _ _) (Nat.le_of_ble_eq_true rfl))); intro h₉ o₉ F₉ N₉ hd₉; (try dsimp only at N₉))))
  refine con_gen (fun P' hPP => ?_)
  refine' con_plain (binds := [(_, _), (_, _)]) ?ho ?hfd ?hcd ?hb ?hl ?c1 ?c2 ?c3 ?c4 ?hh; (case ho => k_dflt k_is); (case hfd => refine' fd_lit ?x1 ?x2 ?x3; (case x1 => (conv => lhs; whnf)); (case x2 => (conv => lhs; whnf)); (case x3 => (conv => lhs; whnf))); (case hcd => k_dflt k_is); (case hb => exact rfl); (case hl => exact locs rfl); (case c1 => exact rfl); (case c2 => exact rfl); (case c3 => exact rfl); (case c4 => decide)
  intro loose mean mg mb dp un gd outer A₀ base g L h₁ s₀ tk Q₀ hq₀ hn₀ B F X N T hd hu
  (try simp only [List.cons_append, List.nil_append, List.append_nil] at N)
  (try dsimp only [List.reverse, List.reverseAux] at F)
  (try dsimp only)
  (try k_fold)
  (first | (refine letAE ?_; intro A9 E9) | skip)
  repeat' (first | ((fail_if_success (with_reducible show wpAny _ _ (compareOp CmpOp.In _ _) _ _ _)); first | (k_unfold; (try dsimp only)) | (with_reducible refine hideQ ?_; intro Q9 hQ9) | (with_reducible refine hideQ2 ?_; intro Q9 hQ9) | (with_reducible refine hQ9 _ _ ?_; try clear hQ9 Q9) | walk1 | (dsimp only; walk1) | (dsimp only; k_unfold; (try dsimp only))) | fail "no step")
  rename (Obj.IsDictOf _ _ (stored _ _ _)) => hd9
  replace hd9 : Obj.IsDictOf (intKind PP w) _ [(0, Value.int c0 v0), (1, .int c1 v1), (2, .int c2 v2), (3, .int c3 v3)] := hd9
  have hV := val4 (c0 := c0) (c1 := c1) (c2 := c2) (c3 := c3) (v0 := v0) (v1 := v1) (v2 := v2) (v3 := v3) hn
  refine kda_in (knd := intKind PP w) (by k_asm) (by first | k_mem | fail "k_mem") hd9 (by assumption) (intKind_is _ _ _ _) true (by rw [hV]; rfl) ?_
  repeat' (first | (k_unfold; (try dsimp only)) | (with_reducible refine hideQ ?_; intro Q9 hQ9) | (with_reducible refine hideQ2 ?_; intro Q9 hQ9) | (with_reducible refine hQ9 _ _ ?_; try clear hQ9 Q9) | walk1 | (dsimp only; walk1) | (dsimp only; k_unfold; (try dsimp only)) | fail "no step")
  ((first | refine' retN hq₀ [(_, _)] (by k_asm) (by k_asm) ?n1 ?n2 ?n3 (hPP _ _ (PCallers.of hn (?p0) (?p1))) | refine' retV hn₀ [(_, _)] (by k_asm) (by k_asm) ?n1 ?n2 ?n3 (hPP _ _ (PCallers.of hn (?p0) (?p1)))); (case n1 => (first | walk_at "my sub" | fail "my sub")); (case n2 => (first | walk_at "my sub" | fail "my sub")); (case p0 => assumption); (case p1 => assumption); (case n3 => (first | walk_at "my apt" | fail "my apt")))
end

end
section
inductive PStats (w : World) (a b c d c0 c1 c2 c3 : Int) : Value → Led → Prop
  | mk (rr dd : Addr) (o : Obj) (t0 t1 t2 t3 s0 s1 s2 s3 : Tok) (l : (dd == sysModules) = false) (h : o.IsDictOf (intKind PP w) [(0, .int c0 t0), (1, .int c1 t1), (2, .int c2 t2), (3, .int c3 t3)]) : PStats w a b c d c0 c1 c2 c3 (.ref rr) [(rr, tupObj #[.int a s0, .int b s1, .int c s2, .int d s3, .ref dd]), (dd, o)]
theorem PStats.el {w : World} {a b c d c0 c1 c2 c3 : Int} (K : Value → Led → Prop) (k : ∀ rr dd o t0 t1 t2 t3 s0 s1 s2 s3, (dd == sysModules) = false → Obj.IsDictOf (intKind PP w) o [(0, .int c0 t0), (1, .int c1 t1), (2, .int c2 t2), (3, .int c3 t3)] → K (.ref rr) [(rr, tupObj #[.int a s0, .int b s1, .int c s2, .int d s3, .ref dd]), (dd, o)]) (r : Value) (A : Led) (h : PStats w a b c d c0 c1 c2 c3 r A) : K r A := by cases h; exact k _ _ _ _ _ _ _ _ _ _ _ (by assumption) (by assumption)
theorem add_func_stats_con {w : World} {ta sa tc sc : Addr} {ot os : Obj} {n c0 c1 c2 c3 x : Int} {v0 v1 v2 v3 vv : Tok} {a b c d a' b' c' d' : Int} {q1 q2 q3 q4 p1 p2 p3 p4 : Tok} (hn : 0 ≤ n ∧ n < 4)
  (lt : (tc == sysModules) = false) (lsa : (sc == sysModules) = false)
  (ht : ot.IsDictOf (intKind PP w) [(0, .int c0 v0), (1, .int c1 v1), (2, .int c2 v2), (3, .int c3 v3)]) (hs : os.IsDictOf (intKind PP w) [(n, .int x vv)]) :
  Con w 2 84 [.ref ta, .ref sa] [] [(ta, tupObj #[.int a q1, .int b q2, .int c q3, .int d q4, .ref tc]), (sa, tupObj #[.int a' p1, .int b' p2, .int c' p3, .int d' p4, .ref sc]), (tc, ot), (sc, os)]
    (PStats w (a' + a) (b' + b) (c' + c) (d' + d) (c0 + if n = 0 then x else 0) (c1 + if n = 1 then x else 0) (c2 + if n = 2 then x else 0) (c3 + if n = 3 then x else 0)) := by
  (k_with "left 4" => skip)
  (k_with "left 3" => skip)
  (k_with "k_lt" => (fail_if_success k_extra "left 5"); (skip))
  (k_with "call ref" => (fail_if_success k_extra "left 5"); ((k_here; k_dflt (refine' con_use1 PCallers.el (add_callers_con ?w₉q1 ?w₉q2 ?w₉q3 ?w₉q4 ?w₉q5) ?w₉k1 ?w₉k2 ?w₉k3 ?w₉k4 ?w₉k5 ?w₉kK ?w₉kI ?w₉kd ?w₉ku ?_); (case w₉k1 => k_asm); (case w₉k2 => k_asm); (case w₉k3 => k_asm); (case w₉k4 => k_asm); (case w₉k5 => k_asm); (case w₉kK => first | exact rfl | assumption); (case w₉kI => first | (intro _ hp₉; replace hp₉ := hsub _ hp₉; (repeat' first | exact hp₉ | refine List.Mem.tail _ ?_); done) | walk_at "my sub"); (case w₉kd => (first | omega | ktr_room)); (case w₉ku => (first | omega | ktr_units)); (case w₉q5 => first | assumption | omega); (case w₉q4 => first | assumption | omega); (case w₉q3 => first | assumption | omega); (case w₉q2 => first | assumption | omega); (case w₉q1 => first | assumption | omega); k_whole; intro d₉ o₉ t1₉ t2₉ t3₉ t4₉ l0₉ hd₉ h₉ tk₉ F₉ N₉ Z₉; (try walk_at "my aptl"); (try simp only [List.cons_append, List.nil_append] at N₉); (try dsimp only); (try k_sweep))))
  refine con_gen (fun P' hPP => ?_)
  refine' con_plain (binds := [(_, _), (_, _)]) ?ho ?hfd ?hcd ?hb ?hl ?c1 ?c2 ?c3 ?c4 ?hh; (case ho => k_dflt k_is); (case hfd => refine' fd_lit ?x1 ?x2 ?x3; (case x1 => (conv => lhs; whnf)); (case x2 => (conv => lhs; whnf)); (case x3 => (conv => lhs; whnf))); (case hcd => k_dflt k_is); (case hb => exact rfl); (case hl => exact locs rfl); (case c1 => exact rfl); (case c2 => exact rfl); (case c3 => exact rfl); (case c4 => decide)
  intro loose mean mg mb dp un gd outer A₀ base g L h₁ s₀ tk Q₀ hq₀ hn₀ B F X N T hd hu
  (try simp only [List.cons_append, List.nil_append, List.append_nil] at N)
  (try dsimp only [List.reverse, List.reverseAux] at F)
  (try dsimp only)
  (try k_fold)
  (first | (refine letAE ?_; intro A9 E9) | skip)
  repeat' (first | (k_unfold; (try dsimp only)) | (with_reducible refine hideQ ?_; intro Q9 hQ9) | (with_reducible refine hideQ2 ?_; intro Q9 hQ9) | (with_reducible refine hQ9 _ _ ?_; try clear hQ9 Q9) | walk1 | (dsimp only; walk1) | (dsimp only; k_unfold; (try dsimp only)) | fail "no step")
  all_goals ((first | refine' retN hq₀ [(_, _), (_, _)] (by k_asm) (by k_asm) ?n1 ?n2 ?n3 (hPP _ _ (.mk _ _ _ _ _ _ _ _ _ _ _ (?p0) (?p1))) | refine' retV hn₀ [(_, _), (_, _)] (by k_asm) (by k_asm) ?n1 ?n2 ?n3 (hPP _ _ (.mk _ _ _ _ _ _ _ _ _ _ _ (?p0) (?p1)))); (case n1 => (first | walk_at "my sub" | fail "my sub")); (case n2 => (first | walk_at "my sub" | fail "my sub")); (case p0 => assumption); (case p1 => assumption); (case n3 => (first | walk_at "my apt" | fail "my apt")))

end
section
inductive PPast (w : World) (ra ba : Addr) (vs : List Value) (nr : Nat) (kvs : List (Int × Value)) (k na nb lb' rb' lf' rf' f1 f2 f3 f4 g1 g2 g3 g4 c0 c1 c2 c3 d0 d1 d2 d3 : Int) : Value → Led → Prop
  | mk {ob' : Obj} {xb xf yf df yb db : Addr} {o1 o2 : Obj} {j0 j1 j2 j3 j4 j5 j6 j7 j8 j9 j10 j11 j12 j13 j14 j15 j16 j17 j18 j19 j20 j21 : Tok} (h1 : (df == sysModules) = false) (h2 : (db == sysModules) = false) (h3 : Obj.IsDictOf (intKind PP w) ob' (stored (stored kvs na (.ref yf)) nb (.ref yb))) (h4 : Obj.IsDictOf (intKind PP w) o1 [(0, .int c0 j14), (1, .int c1 j15), (2, .int c2 j16), (3, .int c3 j17)]) (h5 : Obj.IsDictOf (intKind PP w) o2 [(0, .int d0 j18), (1, .int d1 j19), (2, .int d2 j20), (3, .int d3 j21)]) (h6 : ∀ x ∈ [xb, xf, yf, df, yb, db], Apt x ra ∧ Apt x ba) : PPast w ra ba vs nr kvs k na nb lb' rb' lf' rf' f1 f2 f3 f4 g1 g2 g3 g4 c0 c1 c2 c3 d0 d1 d2 d3 .none [(ra, listOf ((vs.set k.toNat (.ref xb)).set (k + 1).toNat (.ref xf)).toArray nr), (ba, ob'), (xb, tupObj #[.int nb j0, .int lb' j1, .int rb' j2]), (xf, tupObj #[.int na j3, .int lf' j4, .int rf' j5]),
      (yf, tupObj #[.int f1 j6, .int f2 j7, .int f3 j8, .int f4 j9, .ref df]), (df, o1), (yb, tupObj #[.int g1 j10, .int g2 j11, .int g3 j12, .int g4 j13, .ref db]), (db, o2)]
theorem PPast.el {w : World} {ra ba : Addr} {vs : List Value} {nr : Nat} {kvs : List (Int × Value)} {k na nb lb' rb' lf' rf' f1 f2 f3 f4 g1 g2 g3 g4 c0 c1 c2 c3 d0 d1 d2 d3 : Int} (K : Value → Led → Prop) (kk : ∀ ob' xb xf yf df yb db o1 o2 j0 j1 j2 j3 j4 j5 j6 j7 j8 j9 j10 j11 j12 j13 j14 j15 j16 j17 j18 j19 j20 j21, (df == sysModules) = false → (db == sysModules) = false → Obj.IsDictOf (intKind PP w) ob' (stored (stored kvs na (.ref yf)) nb (.ref yb)) → Obj.IsDictOf (intKind PP w) o1 [(0, .int c0 j14), (1, .int c1 j15), (2, .int c2 j16), (3, .int c3 j17)] → Obj.IsDictOf (intKind PP w) o2 [(0, .int d0 j18), (1, .int d1 j19), (2, .int d2 j20), (3, .int d3 j21)] → (∀ x ∈ [xb, xf, yf, df, yb, db], Apt x ra ∧ Apt x ba) → K .none [(ra, listOf ((vs.set k.toNat (.ref xb)).set (k + 1).toNat (.ref xf)).toArray nr), (ba, ob'), (xb, tupObj #[.int nb j0, .int lb' j1, .int rb' j2]), (xf, tupObj #[.int na j3, .int lf' j4, .int rf' j5]),
      (yf, tupObj #[.int f1 j6, .int f2 j7, .int f3 j8, .int f4 j9, .ref df]), (df, o1), (yb, tupObj #[.int g1 j10, .int g2 j11, .int g3 j12, .int g4 j13, .ref db]), (db, o2)]) (r : Value) (A : Led) (h : PPast w ra ba vs nr kvs k na nb lb' rb' lf' rf' f1 f2 f3 f4 g1 g2 g3 g4 c0 c1 c2 c3 d0 d1 d2 d3 r A) : K r A := by
  cases h with | mk h1 h2 h3 h4 h5 h6 => exact kk _ _ _ _ _ _ _ _ _ _ _ _ _ _ _ _ _ _ _ _ _ _ _ _ _ _ _ _ _ _ _ h1 h2 h3 h4 h5 h6
theorem past_con {w : World} {ra ba tf tb bf bb cf cb : Addr} {kvs : List (Int × Value)} {vs : List Value} {nr : Nat} {ob ocf ocb : Obj} {k na nb la ra' lb rb : Int} {k1 k2 k3 k4 k5 k6 : Tok} {a1 a2 a3 a4 z1 z2 z3 z4 : Int} {q1 q2 q3 q4 p1 p2 p3 p4 : Tok} {c0 c1 c2 c3 d0 d1 d2 d3 : Int} {x0 x1 x2 x3 y0 y1 y2 y3 kt : Tok}
  (hk : 0 ≤ k ∧ k < 3) (hvl : vs.length = 4) (hv1 : vs[k.toNat]? = some (.ref tf)) (hv2 : vs[(k + 1).toNat]? = some (.ref tb))
  (hna : 0 ≤ na ∧ na < 4) (hnb : 0 ≤ nb ∧ nb < 4)
  (lba : (ba == sysModules) = false) (lcf : (cf == sysModules) = false) (lcb : (cb == sysModules) = false)
  (hkl : kvs.length = 4) (hob : ob.IsDictOf (intKind PP w) kvs)
  (hbf : valueAt kvs na = some (.ref bf)) (hbb : ∀ v, valueAt (stored kvs na v) nb = some (.ref bb))
  (hcf : ocf.IsDictOf (intKind PP w) [(0, .int c0 x0), (1, .int c1 x1), (2, .int c2 x2), (3, .int c3 x3)])
  (hcb : ocb.IsDictOf (intKind PP w) [(0, .int d0 y0), (1, .int d1 y1), (2, .int d2 y2), (3, .int d3 y3)])
  (n1 : Apt ra ba) (n2 : Apt tf ra) (n3 : Apt tb ra) (n4 : Apt bf ra) (n5 : Apt bb ra) (n6 : Apt cf ra) (n7 : Apt cb ra) (n8 : Apt tf ba) (n9 : Apt tb ba) (n10 : Apt bf ba) (n11 : Apt bb ba) (n12 : Apt cf ba) (n13 : Apt cb ba) :
  Con w 3 199 [.ref ra, .ref ba, .int k kt] [(ra, listOf vs.toArray nr), (ba, ob)] [(tf, tupObj #[.int na k1, .int la k2, .int ra' k3]), (tb, tupObj #[.int nb k4, .int lb k5, .int rb k6]), (bf, tupObj #[.int a1 q1, .int a2 q2, .int a3 q3, .int a4 q4, .ref cf]), (bb, tupObj #[.int z1 p1, .int z2 p2, .int z3 p3, .int z4 p4, .ref cb]), (cf, ocf), (cb, ocb)]
    (PPast w ra ba vs nr kvs k na nb (lb + (mn la rb - mn lb ra')) (rb - (mn la rb - mn lb ra')) (la - (mn la rb - mn lb ra')) (ra' + (mn la rb - mn lb ra')) (1 + a1) (-(mn la rb - mn lb ra') + a2) (mn la rb + a3) (mn lb ra' + a4) (-1 + z1) ((mn la rb - mn lb ra') + z2) (-mn la rb + z3) (-mn lb ra' + z4)
      (c0 + if nb = 0 then 1 else 0) (c1 + if nb = 1 then 1 else 0) (c2 + if nb = 2 then 1 else 0) (c3 + if nb = 3 then 1 else 0) (d0 + if na = 0 then -1 else 0) (d1 + if na = 1 then -1 else 0) (d2 + if na = 2 then -1 else 0) (d3 + if na = 3 then -1 else 0)) := by
  (k_with "left 5" => skip)
  (k_with "k_lt" => (fail_if_success k_extra "left 6"); (skip))
  (k_with "call ref" => (fail_if_success k_extra "left 6"); ((k_here; k_dflt (refine' con_use0 PInt.el isub_con ?w₉k1 ?w₉k2 ?w₉k3 ?w₉k4 ?w₉k5 ?w₉kK ?w₉kI ?w₉kd ?w₉ku ?_); (case w₉k1 => k_asm); (case w₉k2 => k_asm); (case w₉k3 => k_asm); (case w₉k4 => k_asm); (case w₉k5 => k_asm); (case w₉kK => first | exact rfl | assumption); (case w₉kI => first | (intro _ hp₉; replace hp₉ := hsub _ hp₉; (repeat' first | exact hp₉ | refine List.Mem.tail _ ?_); done) | walk_at "my sub"); (case w₉kd => (first | omega | ktr_room)); (case w₉ku => (first | omega | ktr_units)); k_whole; intro t₉ h₉ tk₉ F₉ N₉; (try dsimp only); (try k_sweep))))
  (k_with "call ref" => (fail_if_success k_extra "left 6"); ((k_here; k_dflt (refine' con_use0 PInt.el iadd_con ?w₉k1 ?w₉k2 ?w₉k3 ?w₉k4 ?w₉k5 ?w₉kK ?w₉kI ?w₉kd ?w₉ku ?_); (case w₉k1 => k_asm); (case w₉k2 => k_asm); (case w₉k3 => k_asm); (case w₉k4 => k_asm); (case w₉k5 => k_asm); (case w₉kK => first | exact rfl | assumption); (case w₉kI => first | (intro _ hp₉; replace hp₉ := hsub _ hp₉; (repeat' first | exact hp₉ | refine List.Mem.tail _ ?_); done) | walk_at "my sub"); (case w₉kd => (first | omega | ktr_room)); (case w₉ku => (first | omega | ktr_units)); k_whole; intro t₉ h₉ tk₉ F₉ N₉; (try dsimp only); (try k_sweep))))
  (k_with "call ref" => (fail_if_success k_extra "left 6"); ((k_here; k_dflt (refine' con_use0 PInt.el neg_con ?w₉k1 ?w₉k2 ?w₉k3 ?w₉k4 ?w₉k5 ?w₉kK ?w₉kI ?w₉kd ?w₉ku ?_); (case w₉k1 => k_asm); (case w₉k2 => k_asm); (case w₉k3 => k_asm); (case w₉k4 => k_asm); (case w₉k5 => k_asm); (case w₉kK => first | exact rfl | assumption); (case w₉kI => first | (intro _ hp₉; replace hp₉ := hsub _ hp₉; (repeat' first | exact hp₉ | refine List.Mem.tail _ ?_); done) | walk_at "my sub"); (case w₉kd => (first | omega | ktr_room)); (case w₉ku => (first | omega | ktr_units)); k_whole; intro t₉ h₉ tk₉ F₉ N₉; (try dsimp only); (try k_sweep))))
  (k_with "call ref" => (fail_if_success k_extra "left 6"); ((k_here; k_dflt (refine' con_use0 PBool.el gt_con ?w₉k1 ?w₉k2 ?w₉k3 ?w₉k4 ?w₉k5 ?w₉kK ?w₉kI ?w₉kd ?w₉ku ?_); (case w₉k1 => k_asm); (case w₉k2 => k_asm); (case w₉k3 => k_asm); (case w₉k4 => k_asm); (case w₉k5 => k_asm); (case w₉kK => first | exact rfl | assumption); (case w₉kI => first | (intro _ hp₉; replace hp₉ := hsub _ hp₉; (repeat' first | exact hp₉ | refine List.Mem.tail _ ?_); done) | walk_at "my sub"); (case w₉kd => (first | omega | ktr_room)); (case w₉ku => (first | omega | ktr_units)); k_whole; intro  h₉ tk₉ F₉ N₉; (try dsimp only); (try k_sweep))))
  (k_with "call ref" => (fail_if_success k_extra "left 6"); ((k_here; k_dflt (refine' con_use1 PStats.el (add_func_stats_con ?w₉q1 ?w₉q2 ?w₉q3 ?w₉q4 ?w₉q5) ?w₉k1 ?w₉k2 ?w₉k3 ?w₉k4 ?w₉k5 ?w₉kK ?w₉kI ?w₉kd ?w₉ku ?_); (case w₉k1 => k_asm); (case w₉k2 => k_asm); (case w₉k3 => k_asm); (case w₉k4 => k_asm); (case w₉k5 => k_asm); (case w₉kK => first | exact rfl | assumption); (case w₉kI => first | (intro _ hp₉; replace hp₉ := hsub _ hp₉; (repeat' first | exact hp₉ | refine List.Mem.tail _ ?_); done) | walk_at "my sub"); (case w₉kd => (first | omega | ktr_room)); (case w₉ku => (first | omega | ktr_units)); (case w₉q5 => first | assumption | omega); (case w₉q4 => first | assumption | omega); (case w₉q3 => first | assumption | omega); (case w₉q2 => first | assumption | omega); (case w₉q1 => first | assumption | omega); k_whole; intro rr₉ d₉ o₉ t1₉ t2₉ t3₉ t4₉ u1₉ u2₉ u3₉ u4₉ l0₉ hd₉ h₉ tk₉ F₉ N₉ Z₉; (try walk_at "my aptl"); (try simp only [List.cons_append, List.nil_append] at N₉); (try dsimp only); (try k_sweep))))
  (k_with "subscriptTail Name Subscript ref int" => (fail_if_success k_extra "left 6"); ((k_here; (with_reducible show wpAny _ _ (subscriptTail _ _ (Value.ref _) (Value.int _ _)) _ _ _); k_dflt (refine' kda_item (knd := PySem.intKind _ _) ?w₉N ?w₉m ?w₉d (intKind_is _ _ _ _) ?w₉l ?_; (case w₉N => k_asm); (case w₉m => k_mem); (case w₉d => k_asm); (case w₉l => first | assumption | exact (by assumption : ∀ v, valueAt (stored _ _ v) _ = some _) _)))))
  (k_with "subscriptTail Name Name ref int" => (fail_if_success k_extra "left 6"); ((k_here; (with_reducible show wpAny _ _ (subscriptTail _ _ (Value.ref _) (Value.int _ _)) _ _ _); k_dflt (refine' item_sym ?w₉N ?w₉m ?w₉a ?w₉b ?w₉x ?_; (case w₉N => k_asm); (case w₉m => k_mem); (case w₉a => omega); (case w₉b => omega); (case w₉x => assumption)))))
  (k_with "subscriptTail Name BinOp ref int" => (fail_if_success k_extra "left 6"); ((k_here; (with_reducible show wpAny _ _ (subscriptTail _ _ (Value.ref _) (Value.int _ _)) _ _ _); k_dflt (refine' item_sym ?w₉N ?w₉m ?w₉a ?w₉b ?w₉x ?_; (case w₉N => k_asm); (case w₉m => k_mem); (case w₉a => omega); (case w₉b => omega); (case w₉x => assumption)))))
  (k_with "setItem ref int ref" => (fail_if_success k_extra "left 6"); ((k_here; k_dflt (first
      | (refine' store_sym ?w₉F ?w₉N ?w₉a ?w₉b ?w₉l ?w₉U ?_; (case w₉F => k_asm); (case w₉N => k_asm); (case w₉U => k_upd); (case w₉a => omega); (case w₉b => omega); (case w₉l => (try simp only [List.length_set]); omega); intro h₉ F₉ N₉; (try dsimp only [List.nil_append, List.cons_append] at N₉))
      | (refine' kda_set (knd := PySem.intKind _ _) ?w₉F ?w₉N ?w₉U ?w₉d (intKind_is _ _ _ _) ?w₉z ?_; (case w₉F => k_asm); (case w₉N => k_asm); (case w₉U => k_updF); (case w₉d => k_asm); (case w₉z => rw [sizeLine_eq]; first | omega | (refine Nat.le_trans (stored_len _ _ _) ?_; omega)); intro h₉ o₉ F₉ N₉ hd₉; (try dsimp only at N₉))))))
  refine con_gen (fun P' hPP => ?_)
  refine' con_plain (binds := [(_, _), (_, _), (_, _)]) ?ho ?hfd ?hcd ?hb ?hl ?c1 ?c2 ?c3 ?c4 ?hh; (case ho => k_dflt k_is); (case hfd => refine' fd_lit ?x1 ?x2 ?x3; (case x1 => (conv => lhs; whnf)); (case x2 => (conv => lhs; whnf)); (case x3 => (conv => lhs; whnf))); (case hcd => k_dflt k_is); (case hb => exact rfl); (case hl => exact locs rfl); (case c1 => exact rfl); (case c2 => exact rfl); (case c3 => exact rfl); (case c4 => decide)
  intro loose mean mg mb dp un gd outer A₀ base g L h₁ s₀ tk Q₀ hq₀ hn₀ B F X N T hd hu
  (try simp only [List.cons_append, List.nil_append, List.append_nil] at N)
  (try dsimp only [List.reverse, List.reverseAux] at F)
  (try dsimp only)
  (try k_fold)
  (first | (refine letAE ?_; intro A9 E9) | skip)
  repeat' (first | (k_unfold; (try dsimp only)) | (with_reducible refine hideQ ?_; intro Q9 hQ9) | (with_reducible refine hideQ2 ?_; intro Q9 hQ9) | (with_reducible refine hQ9 _ _ ?_; try clear hQ9 Q9) | walk1 | (dsimp only; walk1) | (dsimp only; k_unfold; (try dsimp only)) | fail "no step")
  all_goals ((first | refine' retN hq₀ [(_, _), (_, _), (_, _), (_, _), (_, _), (_, _), (_, _), (_, _)] (by k_asm) (by k_asm) ?n1 ?n2 ?n3 (hPP _ _ (.mk (?p0) (?p1) (?p2) (?p3) (?p4) ?nA)) | refine' retV hn₀ [(_, _), (_, _), (_, _), (_, _), (_, _), (_, _), (_, _), (_, _)] (by k_asm) (by k_asm) ?n1 ?n2 ?n3 (hPP _ _ (.mk (?p0) (?p1) (?p2) (?p3) (?p4) ?nA))); (case n1 => (first | walk_at "my sub" | fail "my sub")); (case n2 => (first | walk_at "my sub" | fail "my sub")); (case p0 => assumption); (case p1 => assumption); (case p2 => assumption); (case p3 => assumption); (case p4 => assumption); (case n3 => (first | walk_at "my apt" | fail "my apt")))
  all_goals ((first | walk_at "my apt2" | fail "my apt2"))

end
section
theorem compare1_con {w : World} {ord dx keys q0 lf rt : Addr} {As Bs : List Value} {i d a b : Int} {t1 t2 ta tb : Tok} {hsh : Int} {ktk : Tok} (hi : 0 ≤ i ∧ i < 4) (ha : As[i.toNat]? = some (.int a ta)) (hb : Bs[i.toNat]? = some (.int b tb)) :
  Con w 1 70 [.ref ord, .ref lf, .ref rt] [] [(ord, instObj 73 dx), (dx, dictOf [⟨hsh, .str (Str.ofString "comp_select_list") ktk, .ref keys⟩] 1), (keys, tupObj #[.ref q0]), (q0, tupObj #[.int i t1, .int d t2]), (lf, tupObj As.toArray), (rt, tupObj Bs.toArray)]
    (PInt (cmp1 a b d)) := by
  (k_with "left 6" => skip)
  (k_with "subscriptTail Name Name ref int" => (fail_if_success k_extra "left 7"); ((k_here; (with_reducible show wpAny _ _ (subscriptTail _ _ (Value.ref _) (Value.int _ _)) _ _ _); k_dflt (refine' itemT_sym ?w₉N ?w₉m ?w₉a ?w₉b ?w₉x ?_; (case w₉N => k_asm); (case w₉m => k_mem); (case w₉a => omega); (case w₉b => omega); (case w₉x => assumption)))))
  refine con_gen (fun P' hPP => ?_)
  refine' con_plain (binds := [(_, _), (_, _), (_, _)]) ?ho ?hfd ?hcd ?hb ?hl ?c1 ?c2 ?c3 ?c4 ?hh; (case ho => k_dflt k_is); (case hfd => refine' fd_lit ?x1 ?x2 ?x3; (case x1 => (conv => lhs; whnf)); (case x2 => (conv => lhs; whnf)); (case x3 => (conv => lhs; whnf))); (case hcd => k_dflt k_is); (case hb => exact rfl); (case hl => exact locs rfl); (case c1 => exact rfl); (case c2 => exact rfl); (case c3 => exact rfl); (case c4 => decide)
  intro loose mean mg mb dp un gd outer A₀ base g L h₁ s₀ tk Q₀ hq₀ hn₀ B F X N T hd hu
  (try simp only [List.cons_append, List.nil_append, List.append_nil] at N)
  (try dsimp only [List.reverse, List.reverseAux] at F)
  (try dsimp only)
  (try k_fold)
  (first | (refine letAE ?_; intro A9 E9) | skip)
  repeat' (first | (k_unfold; (try dsimp only)) | (with_reducible refine hideQ ?_; intro Q9 hQ9) | (with_reducible refine hideQ2 ?_; intro Q9 hQ9) | (with_reducible refine hQ9 _ _ ?_; try clear hQ9 Q9) | walk1 | (dsimp only; walk1) | (dsimp only; k_unfold; (try dsimp only)) | fail "no step")
  all_goals first
    | ((first | refine' retN hq₀ [] (by k_asm) (by k_asm) ?n1 ?n2 ?n3 (hPP _ _ (PInt.of (by simp only [cmp1]; split <;> first | rfl | omega | (split <;> first | rfl | omega)))) | refine' retV hn₀ [] (by k_asm) (by k_asm) ?n1 ?n2 ?n3 (hPP _ _ (PInt.of (by simp only [cmp1]; split <;> first | rfl | omega | (split <;> first | rfl | omega))))); (case n1 => (first | walk_at "my sub" | fail "my sub")); (case n2 => (first | walk_at "my sub" | fail "my sub")); (case n3 => (first | walk_at "my apt" | fail "my apt")))
theorem compare2_con {w : World} {ord dx keys q0 q1 lf rt : Addr} {As Bs : List Value} {i d a b i' d' a' b' : Int} {t1 t2 ta tb t1' t2' ta' tb' : Tok} {hsh : Int} {ktk : Tok} (hi : 0 ≤ i ∧ i < 4) (ha : As[i.toNat]? = some (.int a ta)) (hb : Bs[i.toNat]? = some (.int b tb)) (hi' : 0 ≤ i' ∧ i' < 4) (ha' : As[i'.toNat]? = some (.int a' ta')) (hb' : Bs[i'.toNat]? = some (.int b' tb')) :
  Con w 1 70 [.ref ord, .ref lf, .ref rt] [] [(ord, instObj 73 dx), (dx, dictOf [⟨hsh, .str (Str.ofString "comp_select_list") ktk, .ref keys⟩] 1), (keys, tupObj #[.ref q0, .ref q1]), (q0, tupObj #[.int i t1, .int d t2]), (q1, tupObj #[.int i' t1', .int d' t2']), (lf, tupObj As.toArray), (rt, tupObj Bs.toArray)]
    (PInt (cmp2 a b d a' b' d')) := by
  refine con_gen (fun P' hPP => ?_)
  refine' con_plain (binds := [(_, _), (_, _), (_, _)]) ?ho ?hfd ?hcd ?hb ?hl ?c1 ?c2 ?c3 ?c4 ?hh; (case ho => k_dflt k_is); (case hfd => refine' fd_lit ?x1 ?x2 ?x3; (case x1 => (conv => lhs; whnf)); (case x2 => (conv => lhs; whnf)); (case x3 => (conv => lhs; whnf))); (case hcd => k_dflt k_is); (case hb => exact rfl); (case hl => exact locs rfl); (case c1 => exact rfl); (case c2 => exact rfl); (case c3 => exact rfl); (case c4 => decide)
  intro loose mean mg mb dp un gd outer A₀ base g L h₁ s₀ tk Q₀ hq₀ hn₀ B F X N T hd hu
  (try simp only [List.cons_append, List.nil_append, List.append_nil] at N)
  (try dsimp only [List.reverse, List.reverseAux] at F)
  (try dsimp only)
  (try k_fold)
  (first | (refine letAE ?_; intro A9 E9) | skip)
  repeat' (first | (k_unfold; (try dsimp only)) | (with_reducible refine hideQ ?_; intro Q9 hQ9) | (with_reducible refine hideQ2 ?_; intro Q9 hQ9) | (with_reducible refine hQ9 _ _ ?_; try clear hQ9 Q9) | walk1 | (dsimp only; walk1) | (dsimp only; k_unfold; (try dsimp only)) | fail "no step")
  all_goals first
    | ((first | refine' retN hq₀ [] (by k_asm) (by k_asm) ?n1 ?n2 ?n3 (hPP _ _ (PInt.of (by simp only [cmp2, cmp1]; (repeat' split) <;> first | rfl | omega))) | refine' retV hn₀ [] (by k_asm) (by k_asm) ?n1 ?n2 ?n3 (hPP _ _ (PInt.of (by simp only [cmp2, cmp1]; (repeat' split) <;> first | rfl | omega)))); (case n1 => (first | walk_at "my sub" | fail "my sub")); (case n2 => (first | walk_at "my sub" | fail "my sub")); (case n3 => (first | walk_at "my apt" | fail "my apt")))

end
section
theorem valueAt_stored (kvs : List (Int × Value)) (k : Int) (v : Value) (n : Int) : valueAt (stored kvs k v) n = if n = k then some v else valueAt kvs n := by
  unfold stored valueAt
  induction kvs with
  | nil =>
    by_cases h : n = k
    · subst h; simp
    · have h' : ¬ k = n := fun e => h e.symm
      simp [h, h']
  | cons x r ih =>
    obtain ⟨a, b⟩ := x
    by_cases hk : a = k
    · subst hk
      simp only [List.any_cons, decide_true, Bool.true_or, if_true, List.map_cons, List.find?_cons]
      by_cases h : n = a
      · subst h; simp
      · have h' : ¬ a = n := fun e => h e.symm
        simp only [h, h', decide_false, if_false]
        clear ih
        congr 1
        induction r with
        | nil => rfl
        | cons y r ih =>
          obtain ⟨c, d⟩ := y
          by_cases hc : c = a
          · subst hc; simp [List.find?_cons, h', ih]
          · simp only [List.map_cons, hc, if_false, List.find?_cons]
            by_cases hn : c = n
            · subst hn; simp
            · simp [hn, ih]
    · simp only [List.any_cons, hk, decide_false, Bool.false_or, List.map_cons, if_false, List.cons_append, List.find?_cons] at ih ⊢
      split <;> rename_i hany
      · rw [if_pos hany] at ih
        by_cases hn : a = n
        · subst hn; simp [hk]
        · simp only [List.find?_cons, hn, decide_false]; exact ih
      · rw [if_neg hany] at ih
        by_cases hn : a = n
        · subst hn; simp [hk]
        · simp only [List.find?_cons, hn, decide_false]; exact ih

inductive ThAt (R : Led) (a : Addr) (t : Th) : Prop
  | mk (k k' k'' : Tok) (m : (a, tupObj #[.int t.nm k, .int t.l k', .int t.r k'']) ∈ R) : ThAt R a t
inductive BkAt (w : World) (R : Led) (a : Addr) (b : Bk) : Prop
  | mk (c : Addr) (oc : Obj) (q0 q1 q2 q3 x0 x1 x2 x3 : Tok) (m : (a, tupObj #[.int b.on q0, .int b.mo q1, .int b.gv q2, .int b.tk q3, .ref c]) ∈ R) (m' : (c, oc) ∈ R) (l : (c == sysModules) = false)
    (d : oc.IsDictOf (intKind PP w) [(0, .int (b.c 0) x0), (1, .int (b.c 1) x1), (2, .int (b.c 2) x2), (3, .int (b.c 3) x3)]) : BkAt w R a b
structure Rep (w : World) (R : Led) (vs : List Value) (kvs : List (Int × Value)) (σ : St) : Prop where
  lv : vs.length = 4
  lr : σ.row.length = 4
  row : ∀ (i : Nat) (t : Th), σ.row[i]? = some t → ∃ a, vs[i]? = some (.ref a) ∧ ThAt R a t
  keys : kvs.map (·.1) = [0, 1, 2, 3]
  bk : ∀ n : Int, 0 ≤ n → n < 4 → ∃ a, valueAt kvs n = some (.ref a) ∧ BkAt w R a (σ.bk n)
  nms : ∀ (i : Nat) (t : Th), σ.row[i]? = some t → 0 ≤ t.nm ∧ t.nm < 4
  dis : ∀ (i j : Nat) (ti tj : Th), σ.row[i]? = some ti → σ.row[j]? = some tj → i ≠ j → ti.nm ≠ tj.nm
section
variable {w : World} {R R' : Led} {vs : List Value} {kvs : List (Int × Value)} {σ : St}
theorem ThAt.mono {a : Addr} {t : Th} (h : ThAt R a t) (s : ∀ p ∈ R, p ∈ R') : ThAt R' a t := by cases h; exact ⟨_, _, _, s _ (by assumption)⟩
theorem BkAt.mono {a : Addr} {b : Bk} (h : BkAt w R a b) (s : ∀ p ∈ R, p ∈ R') : BkAt w R' a b :=
  by obtain ⟨c, oc, q0, q1, q2, q3, x0, x1, x2, x3, m, m', l, d⟩ := h; exact ⟨c, oc, q0, q1, q2, q3, x0, x1, x2, x3, s _ m, s _ m', l, d⟩
theorem Rep.mono (h : Rep w R vs kvs σ) (s : ∀ p ∈ R, p ∈ R') : Rep w R' vs kvs σ where
  lv := h.lv
  lr := h.lr
  row := fun i t e => let ⟨a, e1, e2⟩ := h.row i t e; ⟨a, e1, e2.mono s⟩
  keys := h.keys
  bk := fun n a b => let ⟨c, e1, e2⟩ := h.bk n a b; ⟨c, e1, e2.mono s⟩
  nms := h.nms
  dis := h.dis
theorem stored_keys (k : Int) (v : Value) (hk : k ∈ kvs.map (·.1)) : (stored kvs k v).map (·.1) = kvs.map (·.1) := by
  unfold stored
  have : kvs.any (fun kv => decide (kv.1 = k)) = true := by
    obtain ⟨x, hx, e⟩ := List.mem_map.mp hk
    exact List.any_eq_true.mpr ⟨x, hx, by simp [e]⟩
  rw [if_pos this, List.map_map]
  apply List.map_congr_left
  intro x _
  simp only [Function.comp]
  split <;> rfl
theorem past_rep (h : Rep w R vs kvs σ) {k : Nat} {f b : Th} (ef : σ.row[k]? = some f) (eb : σ.row[k + 1]? = some b) {xb xf yf yb : Addr} (s : ∀ p ∈ R, p ∈ R')
    (hb : ThAt R' xb (backT f b)) (hf : ThAt R' xf (frontT f b)) (hyf : BkAt w R' yf (frontB f b (σ.bk f.nm))) (hyb : BkAt w R' yb (backB f b (σ.bk b.nm))) :
    Rep w R' ((vs.set k (.ref xb)).set (k + 1) (.ref xf)) (stored (stored kvs f.nm (.ref yf)) b.nm (.ref yb)) (past σ k) := by
  have hk : k < 4 := by rw [← h.lr]; exact (List.getElem?_eq_some_iff.mp ef).1
  have hk1 : k + 1 < 4 := by rw [← h.lr]; exact (List.getElem?_eq_some_iff.mp eb).1
  have e : past σ k = ⟨(σ.row.set k (backT f b)).set (k + 1) (frontT f b), fun n => if n = b.nm then backB f b (σ.bk n) else if n = f.nm then frontB f b (σ.bk n) else σ.bk n⟩ := by
    unfold past; rw [ef, eb]
  rw [e]
  have rowAt : ∀ (i : Nat) (t : Th), ((σ.row.set k (backT f b)).set (k + 1) (frontT f b))[i]? = some t → (i = k + 1 ∧ t = frontT f b) ∨ (i = k ∧ t = backT f b) ∨ (i ≠ k ∧ i ≠ k + 1 ∧ σ.row[i]? = some t) := by
    intro i t ht
    rw [List.getElem?_set] at ht
    by_cases h1 : k + 1 = i
    · rw [if_pos h1] at ht
      split at ht
      · exact .inl ⟨h1.symm, (Option.some.inj ht).symm⟩
      · cases ht
    · rw [if_neg h1, List.getElem?_set] at ht
      by_cases h2 : k = i
      · rw [if_pos h2] at ht
        split at ht
        · exact .inr (.inl ⟨h2.symm, (Option.some.inj ht).symm⟩)
        · cases ht
      · rw [if_neg h2] at ht
        exact .inr (.inr ⟨fun q => h2 q.symm, fun q => h1 q.symm, ht⟩)
  have mems : ∀ n : Int, 0 ≤ n → n < 4 → n ∈ kvs.map (·.1) := by
    intro n a b; rw [h.keys]; simp only [List.mem_cons, List.not_mem_nil, or_false]; omega
  obtain ⟨nf0, nf1⟩ := h.nms _ _ ef
  obtain ⟨nb0, nb1⟩ := h.nms _ _ eb
  have hk2 : (stored kvs f.nm (.ref yf)).map (·.1) = [0, 1, 2, 3] := (stored_keys _ _ (mems _ nf0 nf1)).trans h.keys
  refine ⟨by simp [h.lv], by simp [h.lr], fun i t ht => ?_, ?_, fun n n0 n1 => ?_, fun i t ht => ?_, fun i j ti tj hi hj hij => ?_⟩
  · rcases rowAt i t ht with ⟨rfl, rfl⟩ | ⟨rfl, rfl⟩ | ⟨h1, h2, h3⟩
    · refine ⟨xf, ?_, hf⟩
      rw [List.getElem?_set_self (by simp [h.lv]; omega)]
    · refine ⟨xb, ?_, hb⟩
      rw [List.getElem?_set_ne (by omega), List.getElem?_set_self (by simp [h.lv]; omega)]
    · obtain ⟨a, e1, e2⟩ := h.row i t h3
      refine ⟨a, ?_, e2.mono s⟩
      rw [List.getElem?_set_ne (by omega), List.getElem?_set_ne (by omega)]
      exact e1
  · refine (stored_keys (kvs := stored kvs f.nm (.ref yf)) _ _ ?_).trans hk2
    rw [hk2, ← h.keys]; exact mems _ nb0 nb1
  · rw [valueAt_stored, valueAt_stored]
    by_cases h1 : n = b.nm
    · subst h1
      simp only [if_true]
      exact ⟨yb, rfl, hyb⟩
    · by_cases h2 : n = f.nm
      · subst h2
        simp only [h1, if_false, if_true]
        exact ⟨yf, rfl, hyf⟩
      · simp only [h1, h2, if_false]
        obtain ⟨a, e1, e2⟩ := h.bk n n0 n1
        exact ⟨a, e1, e2.mono s⟩
  · rcases rowAt i t ht with ⟨rfl, rfl⟩ | ⟨rfl, rfl⟩ | ⟨_, _, h3⟩
    · exact (show 0 ≤ f.nm ∧ f.nm < 4 from h.nms _ _ ef)
    · exact (show 0 ≤ b.nm ∧ b.nm < 4 from h.nms _ _ eb)
    · exact h.nms _ _ h3
  · have hfb : f.nm ≠ b.nm := h.dis _ _ _ _ ef eb (by omega)
    rcases rowAt i ti hi with ⟨i1, rfl⟩ | ⟨i1, rfl⟩ | ⟨i1, i2, i3⟩ <;> rcases rowAt j tj hj with ⟨j1, rfl⟩ | ⟨j1, rfl⟩ | ⟨j1, j2, j3⟩
    · omega
    · exact hfb
    · exact (show f.nm ≠ tj.nm from h.dis _ _ _ _ ef j3 (by omega))
    · exact fun q => hfb q.symm
    · omega
    · exact (show b.nm ≠ tj.nm from h.dis _ _ _ _ eb j3 (by omega))
    · exact (show ti.nm ≠ f.nm from h.dis _ _ _ _ i3 ef (by omega))
    · exact (show ti.nm ≠ b.nm from h.dis _ _ _ _ i3 eb (by omega))
    · exact h.dis _ _ _ _ i3 j3 hij
end
inductive StAt (w : World) (R R' : Led) (s : Addr) (σ : St) : Prop
  | mk (ls bs : Addr) (vs : List Value) (n : Nat) (kvs : List (Int × Value)) (ob : Obj) (a : (s, tupObj #[.ref ls, .ref bs]) ∈ R) (b : (ls, listOf (List.toArray vs) n) ∈ R) (c : (bs, ob) ∈ R) (d : ob.IsDictOf (intKind PP w) kvs) (e : (bs == sysModules) = false) (f : Rep w R' vs kvs σ) : StAt w R R' s σ
theorem StAt.mono {w : World} {R R' R₁ R₁' : Led} {s : Addr} {σ : St} (h : StAt w R R' s σ) (h1 : ∀ p ∈ R, p ∈ R₁) (h2 : ∀ p ∈ R', p ∈ R₁') : StAt w R₁ R₁' s σ :=
  by obtain ⟨ls, bs, vs, n, kvs, ob, a, b, c, d, e, f⟩ := h; exact ⟨ls, bs, vs, n, kvs, ob, h1 _ a, h1 _ b, h1 _ c, d, e, f.mono h2⟩
theorem Rep.rows {w : World} {R : Led} {vs : List Value} {kvs : List (Int × Value)} {σ : St} (h : Rep w R vs kvs σ) :
    ∃ rs : List {x : Addr × Th // ThAt R x.1 x.2}, vs = rs.map (fun x => Value.ref x.1.1) ∧ rs.map (fun x => x.1.2) = σ.row ∧ rs.length = 4 := by
  obtain ⟨t0, t1, t2, t3, e⟩ := four_of h.lr
  obtain ⟨v0, v1, v2, v3, rfl⟩ := four_of h.lv
  obtain ⟨a0, q0, p0⟩ := h.row 0 t0 (by rw [e]; rfl)
  obtain ⟨a1, q1, p1⟩ := h.row 1 t1 (by rw [e]; rfl)
  obtain ⟨a2, q2, p2⟩ := h.row 2 t2 (by rw [e]; rfl)
  obtain ⟨a3, q3, p3⟩ := h.row 3 t3 (by rw [e]; rfl)
  refine ⟨[⟨(a0, t0), p0⟩, ⟨(a1, t1), p1⟩, ⟨(a2, t2), p2⟩, ⟨(a3, t3), p3⟩], ?_, e.symm, rfl⟩
  simp only [List.map]
  rw [show v0 = _ from Option.some.inj q0, show v1 = _ from Option.some.inj q1, show v2 = _ from Option.some.inj q2, show v3 = _ from Option.some.inj q3]
inductive StPt (w : World) (R : Led) (s : Addr) (σ : St) : Prop
  | mk (ls bs : Addr) (n : Nat) (kvs : List (Int × Value)) (ob : Obj) (rs : List {x : Addr × Th // ThAt R x.1 x.2}) (a1 : (s, tupObj #[.ref ls, .ref bs]) ∈ R) (a2 : (ls, listOf (rs.map fun x => Value.ref x.1.1).toArray n) ∈ R) (a3 : (bs, ob) ∈ R) (a4 : ob.IsDictOf (intKind PP w) kvs) (a5 : (bs == sysModules) = false) (a6 : rs.map (fun x => x.1.2) = σ.row) (a7 : rs.length = 4) (a8 : Rep w R (rs.map fun x => Value.ref x.1.1) kvs σ) : StPt w R s σ
theorem StAt.parts {w : World} {R : Led} {s : Addr} {σ : St} (h : StAt w R R s σ) : StPt w R s σ := by
  obtain ⟨ls, bs, vs, n, kvs, ob, a, b, c, d, e, f⟩ := h
  obtain ⟨rs, rfl, h2, h3⟩ := f.rows
  exact ⟨ls, bs, n, kvs, ob, rs, a, b, c, d, e, h2, h3, f⟩

end
section
open PySem PySem.W PyProof.Rows PySem.Spec PySem.Calls
set_option maxRecDepth 100000
set_option maxHeartbeats 8000000
section
variable {A : Around} {s : Shared}
theorem pairs_any {w w' : World} {p p' : Program} {es : List DictEntry} {kvs : List (Int × Value)} (h : Pairs (intKind p' w) es kvs) : Pairs (intKind p w') es kvs := by
  induction h with
  | nil => exact .nil
  | cons a b _ ih => exact .cons a b ih
theorem dict_any {w w' : World} {p : Program} {o : Obj} {kvs : List (Int × Value)} (h : o.IsDictOf (intKind PP w) kvs) : o.IsDictOf (intKind p w') kvs :=
  let ⟨es, ep, a, b, c, d, e⟩ := h; ⟨es, ep, a, b, c, pairs_any d, e⟩
theorem eq_ref {a b : Addr} (h : SeqAt.RcAt A s (.ref a) (.ref b) true) : SeqAt.EqAt A s (.ref a) (.ref b) true := by
  by_cases e : a = b
  · subst e; exact SeqAt.EqAt.same _
  · exact SeqAt.EqAt.of_refs e h
theorem eq_int {a b : Int} {t u : Tok} (h : a = b) : SeqAt.EqAt A s (.int a t) (.int b u) true := by
  subst h
  have := SeqAt.EqAt.int_int (A := A) (s := s) a t a u
  rwa [beq_self_eq_true] at this
theorem all_true (n : Nat) : (List.range n).all (fun _ => true) = true := List.all_eq_true.mpr fun _ _ => rfl
inductive EqAll (A : Around) (s : Shared) : List Value → List Value → Prop
  | nil : EqAll A s [] []
  | cons {a b : Value} {r q : List Value} : SeqAt.EqAt A s a b true → EqAll A s r q → EqAll A s (a :: r) (b :: q)
theorem EqAll.len {xs ys : List Value} (h : EqAll A s xs ys) : xs.length = ys.length := by
  induction h with
  | nil => rfl
  | cons _ _ ih => exact congrArg (· + 1) ih
theorem EqAll.get {xs ys : List Value} (h : EqAll A s xs ys) : ∀ (j : Nat) (h1 : j < xs.length) (h2 : j < ys.length), SeqAt.EqAt A s xs[j] ys[j] true := by
  induction h with
  | nil => intro j h1; exact absurd h1 (Nat.not_lt_zero _)
  | cons e _ ih =>
    intro j h1 h2
    cases j with
    | zero => exact e
    | succ j => exact ih j (Nat.lt_of_succ_lt_succ h1) (Nat.lt_of_succ_lt_succ h2)
theorem rc_tup {a b : Addr} {xs ys : List Value} (ha : s.heap.IsTuple a xs.toArray) (hb : s.heap.IsTuple b ys.toArray) (hu : A.units < cLine) (h : EqAll A.in1 s xs ys) : SeqAt.RcAt A s (.ref a) (.ref b) true := by
  have := SeqAt.RcAt.tuples (A := A) (e := fun _ => true) ha hb hu (fun j h1 h2 => by simpa using h.get j (by simpa using h1) (by simpa using h2))
  simpa [all_true, h.len] using this
theorem rc_list {a b : Addr} {xs ys : List Value} (ha : s.heap.IsList a xs.toArray) (hb : s.heap.IsList b ys.toArray) (hu : A.units < cLine) (h : EqAll A.in1 s xs ys) : SeqAt.RcAt A s (.ref a) (.ref b) true := by
  have := SeqAt.RcAt.lists (A := A) (e := fun _ => true) ha hb (by simp [h.len]) hu (fun j h1 h2 => by simpa using h.get j (by simpa using h1) (by simpa using h2))
  simpa [all_true] using this
theorem ne_tup {prog : Program} {w : World} {E : Value → Shared → Prop} {a b : Addr} {xs ys : List Value} {Q : Value → Shared → Prop} (ha : s.heap.IsTuple a xs.toArray) (hb : s.heap.IsTuple b ys.toArray) (hu : A.units < cLine) (h : EqAll A.in1 s xs ys) (hq : Q (.bool false) s) : wpAny (model prog w) A (compareOp .NotEq (.ref a) (.ref b)) Q E s := by
  obtain ⟨⟨cls, dd, data, sl⟩, ho, hc, n, hd⟩ := id ha
  obtain ⟨⟨cls2, dd2, data2, sl2⟩, ho2, hc2, n2, hd2⟩ := id hb
  simp only at hc hd hc2 hd2
  subst hc hd hc2 hd2
  exact richCompare_meets_room (op := .NotEq) ⟨_, ho, rfl⟩ ⟨_, ho2, rfl⟩ F.slot_tuple_ne F.entry_tuple_ne (F.args_tuple_ne_2 _ _) (SeqAt.tuple_neAt a b _ _ n n2 dd dd2 sl sl2 fun _ => true)
    ⟨ho, ho2, fun j h1 h2 => by simpa using h.get j (by simpa using h1) (by simpa using h2), by
      show Value.bool _ ≠ Value.notImplemented ∧ Q (.bool _) s
      refine ⟨(fun x => nomatch x), ?_⟩
      simpa [all_true, h.len] using hq⟩ hu
theorem ne_list {prog : Program} {w : World} {E : Value → Shared → Prop} {a b : Addr} {xs ys : List Value} {Q : Value → Shared → Prop} (ha : s.heap.IsList a xs.toArray) (hb : s.heap.IsList b ys.toArray) (hu : A.units < cLine) (h : EqAll A.in1 s xs ys) (hq : Q (.bool false) s) : wpAny (model prog w) A (compareOp .NotEq (.ref a) (.ref b)) Q E s := by
  obtain ⟨⟨cls, dd, data, sl⟩, ho, hc, n, hd⟩ := id ha
  obtain ⟨⟨cls2, dd2, data2, sl2⟩, ho2, hc2, n2, hd2⟩ := id hb
  simp only at hc hd hc2 hd2
  subst hc hd hc2 hd2
  exact richCompare_meets_room (op := .NotEq) ⟨_, ho, rfl⟩ ⟨_, ho2, rfl⟩ F.slot_list_ne F.entry_list_ne (F.args_list_ne_2 _ _) (SeqAt.list_neAt a b _ _ n n2 dd dd2 sl sl2 (by simp [h.len]) fun _ => true)
    ⟨ho, ho2, fun j h1 h2 => by simpa using h.get j (by simpa using h1) (by simpa using h2), by
      show Value.bool _ ≠ Value.notImplemented ∧ Q (.bool _) s
      refine ⟨(fun x => nomatch x), ?_⟩
      simpa [all_true] using hq⟩ hu
theorem rc_dict {w : World} {a b : Addr} {oa ob : Obj} {ka kb : List (Int × Value)} (ha : s.heap.get? a = some oa) (hb : s.heap.get? b = some ob) (da : oa.IsDictOf (intKind PP w) ka) (db : ob.IsDictOf (intKind PP w) kb) (la : (a == sysModules) = false) (lb : (b == sysModules) = false) (hl : ka.length = kb.length) (hu : A.units < cLine)
    (hits : KeqHits A.in1 s kb ka true) : SeqAt.RcAt A s (.ref a) (.ref b) true := fun prog w' E Q h => by
  refine keq_eq (knd := intKind prog w') (r := true) la lb (Heap.dictOf_iff.mpr ⟨oa, ha, dict_any da⟩) (Heap.dictOf_iff.mpr ⟨ob, hb, dict_any db⟩) hu (fun _ => hits) ?_
  rw [hl, beq_self_eq_true, Bool.true_and]; exact h
theorem hits4 {ka kb : List (Int × Value)} (k1 : ka.map (·.1) = [0, 1, 2, 3]) (h : ∀ n : Int, 0 ≤ n → n < 4 → ∃ v y, valueAt ka n = some v ∧ valueAt kb n = some y ∧ SeqAt.EqAt A s v y true) : KeqHits A s kb ka true := by
    obtain ⟨⟨_, va⟩, ka, rfl, rfl, k2⟩ := List.map_eq_cons_iff.mp k1
    obtain ⟨⟨_, vb⟩, ka, rfl, rfl, k3⟩ := List.map_eq_cons_iff.mp k2
    obtain ⟨⟨_, vc⟩, ka, rfl, rfl, k4⟩ := List.map_eq_cons_iff.mp k3
    obtain ⟨⟨_, vd⟩, ka, rfl, rfl, k5⟩ := List.map_eq_cons_iff.mp k4
    obtain rfl := List.map_eq_nil_iff.mp k5
    obtain ⟨v0, y0, e0, f0, q0⟩ := h 0 (by decide) (by decide)
    obtain ⟨v1, y1, e1, f1, q1⟩ := h 1 (by decide) (by decide)
    obtain ⟨v2, y2, e2, f2, q2⟩ := h 2 (by decide) (by decide)
    obtain ⟨v3, y3, e3, f3, q3⟩ := h 3 (by decide) (by decide)
    have z0 : va = v0 := Option.some.inj e0
    have z1 : vb = v1 := Option.some.inj e1
    have z2 : vc = v2 := Option.some.inj e2
    have z3 : vd = v3 := Option.some.inj e3
    subst z0 z1 z2 z3
    exact .hit (e := true) (b := true) f0 q0 (.hit (e := true) (b := true) f1 q1 (.hit (e := true) (b := true) f2 q2 (.hit (e := true) (b := true) f3 q3 .nil)))
section
variable {w : World} {h₀ : Heap} {L : Addr} {R : Led}
theorem eq_th {a b : Addr} {t : Th} (N : News h₀ L s.heap R) (ha : ThAt R a t) (hb : ThAt R b t) (hu : A.units < cLine) : SeqAt.EqAt A s (.ref a) (.ref b) true := by
  obtain ⟨k1, k2, k3, m1⟩ := ha
  obtain ⟨j1, j2, j3, m2⟩ := hb
  exact eq_ref (rc_tup (xs := [_, _, _]) (ys := [_, _, _]) (N.isTup m1) (N.isTup m2) hu (.cons (eq_int rfl) (.cons (eq_int rfl) (.cons (eq_int rfl) .nil))))
theorem eq_bk {a b : Addr} {x y : Bk} (N : News h₀ L s.heap R) (ha : BkAt w R a x) (hb : BkAt w R b y) (he : x.on = y.on ∧ x.mo = y.mo ∧ x.gv = y.gv ∧ x.tk = y.tk ∧ ∀ n : Int, 0 ≤ n → n < 4 → x.c n = y.c n) (hu : A.units + 1 < cLine) : SeqAt.EqAt A s (.ref a) (.ref b) true := by
  obtain ⟨c, oc, q0, q1, q2, q3, x0, x1, x2, x3, m1, m2, l, d⟩ := ha
  obtain ⟨c', oc', q0', q1', q2', q3', x0', x1', x2', x3', m1', m2', l', d'⟩ := hb
  obtain ⟨e1, e2, e3, e4, e5⟩ := he
  refine eq_ref (rc_tup (xs := [_, _, _, _, _]) (ys := [_, _, _, _, _]) (N.isTup m1) (N.isTup m1') (Nat.lt_of_succ_lt hu) (.cons (eq_int e1) (.cons (eq_int e2) (.cons (eq_int e3) (.cons (eq_int e4) (.cons (eq_ref ?_) .nil))))))
  refine rc_dict (N _ m2).1 (N _ m2').1 d d' l l' rfl hu (hits4 rfl fun n h1 h2 => ?_)
  have hn : n = 0 ∨ n = 1 ∨ n = 2 ∨ n = 3 := by omega
  rcases hn with rfl | rfl | rfl | rfl
  · exact ⟨_, _, rfl, rfl, eq_int (e5 0 (by decide) (by decide))⟩
  · exact ⟨_, _, rfl, rfl, eq_int (e5 1 (by decide) (by decide))⟩
  · exact ⟨_, _, rfl, rfl, eq_int (e5 2 (by decide) (by decide))⟩
  · exact ⟨_, _, rfl, rfl, eq_int (e5 3 (by decide) (by decide))⟩
structure SameSt (σ τ : St) : Prop where
  row : σ.row = τ.row
  bk : ∀ n : Int, 0 ≤ n → n < 4 → (σ.bk n).on = (τ.bk n).on ∧ (σ.bk n).mo = (τ.bk n).mo ∧ (σ.bk n).gv = (τ.bk n).gv ∧ (σ.bk n).tk = (τ.bk n).tk ∧ ∀ k : Int, 0 ≤ k → k < 4 → (σ.bk n).c k = (τ.bk n).c k
theorem eq_parts {a b : Addr} {σ τ : St} (N : News h₀ L s.heap R) (ha : StAt w R R a σ) (hb : StAt w R R b τ) (h : SameSt σ τ) (hu : A.units + 3 < cLine) : ∃ xs ys, s.heap.IsTuple a (List.toArray xs) ∧ s.heap.IsTuple b (List.toArray ys) ∧ EqAll A.in1 s xs ys := by
  obtain ⟨ls, bs, n, kvs, ob, ra, a1, a2, a3, a4, a5, a6, a7, a8⟩ := ha.parts
  obtain ⟨ls2, bs2, n2, kvs2, ob2, rb, b1, b2, b3, b4, b5, b6, b7, b8⟩ := hb.parts
  refine ⟨[_, _], [_, _], N.isTup a1, N.isTup b1, .cons (eq_ref (rc_list (N.isList a2) (N.isList b2) (by show A.units + 1 < _; omega) ?_)) (.cons (eq_ref (rc_dict (N _ a3).1 (N _ b3).1 a4 b4 a5 b5 ?_ (by show A.units + 1 < _; omega) (hits4 a8.keys fun k k0 k1 => ?_))) .nil)⟩
  · have e : ra.map (fun x => x.1.2) = rb.map (fun x => x.1.2) := a6.trans (h.row.trans b6.symm)
    clear a2 b2 a6 b6 a7 b7 a8 b8
    induction ra generalizing rb with
    | nil => cases rb with
      | nil => exact .nil
      | cons _ _ => cases e
    | cons x r ih =>
      cases rb with
      | nil => cases e
      | cons y q =>
        simp only [List.map_cons, List.cons.injEq] at e
        exact .cons (eq_th N x.2 (e.1 ▸ y.2) (by show A.units + 1 + 1 < _; omega)) (ih q e.2)
  · have := congrArg List.length a8.keys
    have h2 := congrArg List.length b8.keys
    rw [List.length_map] at this h2
    rw [this, h2]
  · obtain ⟨x, e1, m1⟩ := a8.bk k k0 k1
    obtain ⟨y, e2, m2⟩ := b8.bk k k0 k1
    exact ⟨_, _, e1, e2, eq_bk N m1 m2 (h.bk k k0 k1) (by show A.units + 1 + 1 + 1 < _; omega)⟩
theorem eq_states {prog : Program} {w' : World} {E : Value → Shared → Prop} {Q : Value → Shared → Prop} {a b : Addr} {σ τ : St} (N : News h₀ L s.heap R) (ha : StAt w R R a σ) (hb : StAt w R R b τ) (h : SameSt σ τ) (hu : A.units + 3 < cLine) (hq : Q (.bool true) s) : wpAny (model prog w') A (compareOp .Eq (.ref a) (.ref b)) Q E s := by
  obtain ⟨xs, ys, h1, h2, h3⟩ := eq_parts N ha hb h hu
  exact rc_tup h1 h2 (by omega) h3 prog w' E Q hq
theorem ne_states {prog : Program} {w' : World} {E : Value → Shared → Prop} {Q : Value → Shared → Prop} {a b : Addr} {σ τ : St} (N : News h₀ L s.heap R) (ha : StAt w R R a σ) (hb : StAt w R R b τ) (h : SameSt σ τ) (hu : A.units + 3 < cLine) (hq : Q (.bool false) s) : wpAny (model prog w') A (compareOp .NotEq (.ref a) (.ref b)) Q E s := by
  obtain ⟨xs, ys, h1, h2, h3⟩ := eq_parts N ha hb h hu
  exact ne_tup h1 h2 (by omega) h3 hq
end
end
end
section
open PySem PySem.W PyProof.Rows PySem.Spec PySem.Calls
set_option maxRecDepth 100000
set_option maxHeartbeats 8000000
theorem off3_at {I C D : Addr} : ∀ {l : Led}, LCg.Off3 I C D l → ∀ p ∈ l, @Ne Nat p.1 I ∧ @Ne Nat p.1 C ∧ @Ne Nat p.1 D
  | [], _, _, h => absurd h (List.not_mem_nil)
  | _ :: _, x, p, h => by
    rcases List.mem_cons.mp h with rfl | h
    · exact x.1
    · exact off3_at x.2 p h
open PySem.Spec PyProof.Rows.LCg in
inductive DcInv (w : World) (h₀ : Heap) (L : Addr) (m : Str → Option Value) (s₂ : Shared) (C D I : Addr) (n : Nat) (Jv : Nat → List (Int × Value) → Led → Prop) : Nat → Shared → Prop
  | mk (i : Nat) (h' : Heap) (tk : Nat) (kvs : List (Int × Value)) (m' : Str → Option Value) (nw : Led) (oD : Obj) (hi : i ≤ n) (hkl : kvs.length ≤ i) (hIt : IsRangeIter h' I (0 + (i : Nat) * 1) ((n : Int) - (i : Nat)) 1) (F : Fr h₀ L h' m) (hn : h'.Ns C m') (hd : oD.IsDictOf (intKind PP w) kvs) (N : News h₀ L h' ((D, oD) :: nw)) (off : Off3 I C D nw) (hJ : Jv i kvs nw) :
    DcInv w h₀ L m s₂ C D I n Jv (n + 1 - i) { s₂ with heap := h', toks := tk }
open PySem.Spec PyProof.Rows.LCg in
theorem dc_block {w : World} {A : Around} {E : Value → Shared → Prop} {s₂ : Shared} {h₀ : Heap} {L I : Addr} {m : Str → Option Value} {env : Env} {kx vx iter : PySem.Expr} {x : Str} {px : Pos} {scope : PySem.Scope} {cl : List (Str × Addr)} {pos : Pos} {Post : Value → Addr → Result → Shared → Prop} {news : Led} (Jv : Nat → List (Int × Value) → Led → Prop) (n : Nat)
    (hh : A.handled = none) (hcell : ∀ y ∈ scope.names, y.2 ≠ .cell) (hkind : scope.kind = .function) (hx : scope.names.lookup x = some .local) (hn : n ≤ 1000)
    (hI0 : s₂.heap.get? I = some (itR ((0 : Int) + (0 : Nat) * 1) ((n : Int) - (0 : Nat)))) (i0 : h₀.get? I = none) (LI : @LT.lt Nat _ L I) (offI : ∀ p ∈ news, @LT.lt Nat _ p.1 I) (F : Fr h₀ L s₂.heap m) (N : News h₀ L s₂.heap news) (hlim : h₀.NoLimit) (J0 : Jv 0 [] news)
    (turn : ∀ (i : Nat) kvs nw, i < n → Jv i kvs nw → ∀ t I oI oC C D oD m₂ h tk (E' : Value → Shared → Prop), oD.IsDictOf (intKind PP w) kvs → NsObj oC m₂ → m₂ x = some (.int (i : Int) t) → Fr h₀ L h m → News h₀ L h ((I, oI) :: (C, oC) :: (D, oD) :: nw) → Off3 I C D nw →
        wpAny (model PP w) A (eval kx (compEnvC scope cl C env)) (fun kv s₄ => (∃ t', kv = .int (i : Int) t') ∧ wpAny (model PP w) A (eval vx (compEnvC scope cl C env)) (CompEnd h₀ L m { s₂ with heap := h, toks := tk } I oI C oC D oD (fun _ => True) (fun y n' => Jv (i + 1) (stored kvs i y) n')) E' s₄) E' { s₂ with heap := h, toks := tk })
    (fin : ∀ C D oD h tk kvs nw m', Jv n kvs nw → oD.IsDictOf (intKind PP w) kvs → (D == sysModules) = false → Fr h₀ L h m → News h₀ L h ((D, oD) :: nw) → Off1 D nw → h.Ns C m' → @Ne Nat C L → (∀ p ∈ (D, oD) :: nw, @Ne Nat p.1 C) → h₀.get? C = none → ∀ f, Post (.ref D) C (.ok f) { s₂ with heap := h, toks := tk }) :
    wpAny (model PP w) A newDict (fun acc s₃ => wpAny (model PP w) A (newFunctionEnv scope env.globals cl [] env.qual none .none (some env)) (fun cenv s₄ =>
      codeAny (model PP w) A (.compStart (.DictComp kx vx [⟨.Name x px, iter, [], 0⟩] scope pos) 0 (.ref I) acc { cenv with scope := relabel scope env }) (Post acc cenv.locals) s₄) E s₃) E s₂ := by
  refine wpAny_newObj_type (wpAny_newFunctionEnv hcell (by intro y hy; simp at hy) (fun h₁ hns₂ hsb₁ => ?_) hkind)
  dsimp only at hns₂ hsb₁ ⊢
  have hnew : (s₂.heap.push { cls := .type "dict", dict := none, data := .dict #[] }).DictOf (intKind PP w) s₂.heap.objs.size [] := Heap.DictOf.new s₂.heap
  generalize hH2 : s₂.heap.push { cls := .type "dict", dict := none, data := .dict #[] } = H2 at hns₂ hsb₁ hnew ⊢
  generalize hCg : H2.objs.size = C at hns₂ hsb₁ ⊢
  generalize hDg : s₂.heap.objs.size = D at hnew ⊢
  have hCD : C = D + 1 := by rw [← hCg, ← hDg, ← hH2, Heap.size_push]
  have low : ∀ q o, s₂.heap.get? q = some o → @LT.lt Nat _ q D := fun q o z => hDg ▸ Heap.lt_size z
  have old : ∀ q o, s₂.heap.get? q = some o → h₁.get? q = some o := fun q o z => hsb₁.extBut q o (by have := low q o z; rw [hCD]; exact Nat.ne_of_lt (Nat.lt_succ_of_lt this)) (Heap.get?_push_of_some _ (hH2 ▸ Heap.get?_push_of_some _ z))
  have fresh₀ : ∀ q, @LE.le Nat _ D q → h₀.get? q = none := fun q hq => by
    cases z : h₀.get? q with
    | none => rfl
    | some o => exact absurd (low q o (F.keep q o z)) (Nat.not_lt.mpr hq)
  have cd : @Ne Nat C D := by have : @Eq Nat C (D + 1) := hCD; exact fun z => by omega
  obtain ⟨oD0, hoD0, hdD0⟩ := Heap.dictOf_iff.mp hnew
  have hacc : h₁.get? D = some oD0 := hsb₁.extBut _ _ (Ne.symm cd) (Heap.get?_push_of_some _ hoD0)
  have hD0 := fresh₀ D (Nat.le_refl _)
  have hC0 := fresh₀ C (by rw [hCD]; exact Nat.le_succ _)
  have ID : @LT.lt Nat _ I D := hDg ▸ (Heap.lt_size hI0)
  have Llt : @LT.lt Nat _ L D := Nat.lt_trans LI ID
  have nlt : ∀ p ∈ news, @LT.lt Nat _ p.1 D := fun p hp => Nat.lt_trans (offI p hp) ID
  have ne1 : ∀ q : Nat, q < D → q ≠ C ∧ q ≠ D := fun q hq => by
    have : @Eq Nat C (D + 1) := hCD
    exact ⟨fun z => by omega, fun z => by omega⟩
  have lo : (D == sysModules) = false := hDg ▸ F.notModules (modules_low hlim)
  have W := range_walks (prog := PP) (w := w) (A := A) (I := I) hh 0 n
  have lp : ∀ tkz : Nat, codeAny (model PP w) A (.compLoop (.DictComp kx vx [⟨.Name x px, iter, [], 0⟩] scope pos) 0 (.ref I) (.ref D) (compEnvC scope cl C env)) (Post (.ref D) C) { s₂ with heap := h₁, toks := tkz } := by
    intro tkz
    refine codeAny_compLoop_testsD
        (DcInv w h₀ L m s₂ C D I n Jv) ?_ (n + 1)
        (.mk 0 h₁ _ [] _ news oD0 (Nat.zero_le _) (Nat.le_refl _) (old _ _ hI0) (F.keeps old) hns₂ hdD0 ?_ (Off3.of fun p hp => ⟨Nat.ne_of_lt (offI p hp), (ne1 _ (nlt p hp)).1, (ne1 _ (nlt p hp)).2⟩) J0)
    · rintro k s' ⟨i, h', tk, kvs, m', nw, oD, hi, hkl, hIt, F', hn', hdD, N', off, hJ⟩
      by_cases hlt : i < n
      · refine W.item i _ _ _ hlt hIt fun vv h₂ tk₂ hP hst₂ hk₂ => ?_
        obtain ⟨t', rfl⟩ := hP
        have e0 : ((0 : Int) + (i : Int)) = (i : Int) := Int.zero_add _
        rw [e0]
        have up₂ : ∀ q o, q ≠ I → h'.get? q = some o → h₂.get? q = some o := fun q o z1 z => hk₂ q o (by simp [z1]) z
        refine wpAny_assign_Name (wpAny_storeName_local (lookup_relabel_local hx) (hn'.at' fun o z => up₂ _ o (Ne.symm (ne1 I ID).1) z) (fun h₃ hn₃ hs₃ => ?_) (by simp [compEnvC, relabel, hkind]))
        have up : ∀ q o, q ≠ I → q ≠ C → h'.get? q = some o → h₃.get? q = some o := fun q o z1 z2 z => hs₃.extBut q o z2 (up₂ q o z1 z)
        refine hide_goal fun X9 hX9 => ?_
        obtain ⟨oI, hoI⟩ : ∃ oI : Obj, h₃.get? I = some oI ∧ ∀ h : Heap, h.get? I = some oI → IsRangeIter h I (0 + ((i + 1 : Nat) : Int) * 1) ((n : Int) - ((i + 1 : Nat) : Int)) 1 := ⟨_, hs₃.extBut _ _ (ne1 I ID).1 hst₂, fun _ z => z⟩
        obtain ⟨oC, heC, hoC⟩ := ns_obj hn₃
        refine hX9 ?_
        clear hX9 X9
        have F₃ : Fr h₀ L h₃ m := ⟨F'.ns.at' fun o z => up _ o (Nat.ne_of_lt LI) (ne1 L Llt).1 z, fun q o z => up q o (fun y => by rw [y, i0] at z; cases z) (fun y => by rw [y, hC0] at z; cases z) (F'.keep q o z), F'.above⟩
        have offAt : ∀ p ∈ nw, p.1 ≠ I ∧ p.1 ≠ C ∧ p.1 ≠ D := fun p hp => off3_at off p hp
        have N₃ : News h₀ L h₃ ((I, oI) :: (C, oC) :: (D, oD) :: nw) := fun q hq => by
          simp only [List.mem_cons] at hq
          rcases hq with rfl | rfl | rfl | hq
          · exact ⟨hoI.1, Ne.symm (Nat.ne_of_lt LI), i0⟩
          · exact ⟨heC, Ne.symm (ne1 L Llt).1, hC0⟩
          · exact ⟨up _ _ (Ne.symm (ne1 I ID).2) (Ne.symm cd) (N' _ (.head _)).1, (N' _ (.head _)).2⟩
          · exact ⟨up _ _ (offAt q hq).1 (offAt q hq).2.1 (N' q (.tail _ hq)).1, (N' q (.tail _ hq)).2⟩
        refine wpAny_of_eq (rfl : (forIn ([] : List PySem.Expr) true _ : Sem Bool) = pure true) ?_
        simp only [if_true]
        refine wpAny_mono (turn i kvs nw hlt hJ t' I oI oC C D oD _ h₃ _ _ hdD hoC (by simp) F₃ N₃ off) (fun kv s₄ h₄ => ?_) fun _ _ z => z
        obtain ⟨⟨t4, rfl⟩, h₄⟩ := h₄
        refine wpAny_mono h₄ (fun y s₅ h₅ => ?_) fun _ _ z => z
        obtain ⟨h₅, tk₅, nw₅, rfl, F₅, N₅, off₅, _, R₅⟩ := h₅
        have offAt5 : ∀ p ∈ nw₅, p.1 ≠ I ∧ p.1 ≠ C ∧ p.1 ≠ D := fun p hp => off3_at off₅ p hp
        refine wpAny_dictSet_pairs (knd := intKind PP w) (k := (i : Int)) (hsz := by rw [sizeLine_eq]; omega) (intKind_is _ _ _ _) (Heap.dictOf_iff.mpr ⟨oD, (N₅ (D, oD) (.tail _ (.tail _ (.head _)))).1, hdD⟩) fun h₆ hl₆ hs₆ => ?_
        obtain ⟨oD', ho6, hd6⟩ := Heap.dictOf_iff.mp hl₆
        refine ⟨n + 1 - (i + 1), by omega, .mk (i + 1) h₆ _ (stored kvs i y) _ nw₅ oD' hlt (Nat.le_trans (stored_len _ _ _) (Nat.succ_le_succ hkl)) (hoI.2 h₆ (hs₆.extBut _ _ (ne1 I ID).2 (N₅ _ (.head _)).1)) (F₅.change hs₆ (Ne.symm (ne1 L Llt).2) hD0) (hoC.ns (hs₆.extBut _ _ cd (N₅ (C, oC) (.tail _ (.head _))).1)) hd6 (fun q hq => ?_) off₅ R₅⟩
        rcases List.mem_cons.mp hq with rfl | hq
        · exact ⟨ho6, (N₅ _ (.tail _ (.tail _ (.head _)))).2⟩
        · have z := N₅ _ (.tail _ (.tail _ (.tail _ hq)))
          exact ⟨hs₆.extBut _ _ (offAt5 q hq).2.2 z.1, z.2⟩
      · obtain rfl : i = n := Nat.le_antisymm hi (Nat.not_lt.mp hlt)
        refine W.done _ _ _ hIt fun h₂ tk₂ hk₂ => ?_
        have up : ∀ q o, q ≠ I → h'.get? q = some o → h₂.get? q = some o := fun q o z1 z => hk₂ q o (by simp [z1]) z
        have offAt : ∀ p ∈ nw, p.1 ≠ I ∧ p.1 ≠ C ∧ p.1 ≠ D := fun p hp => off3_at off p hp
        refine fin C D oD h₂ _ kvs nw m' hJ hdD lo ⟨F'.ns.at' fun o z => up _ o (Nat.ne_of_lt LI) z, fun q o z => up q o (fun y => by rw [y, i0] at z; cases z) (F'.keep q o z), F'.above⟩ (fun p hp => ?_) (Off3.one off) (hn'.at' fun o z => up _ o (Ne.symm (ne1 I ID).1) z) (Ne.symm (ne1 L Llt).1) (List.forall_mem_cons.mpr ⟨Ne.symm cd, fun p hp => (offAt p hp).2.1⟩) hC0 _
        rcases List.mem_cons.mp hp with rfl | hp
        · exact ⟨up _ _ (Ne.symm (ne1 I ID).2) (N' _ (.head _)).1, (N' _ (.head _)).2⟩
        · exact ⟨up _ _ (offAt p hp).1 (N' _ (.tail _ hp)).1, (N' _ (.tail _ hp)).2⟩
    · intro p hp
      rcases List.mem_cons.mp hp with rfl | hp
      · exact ⟨hacc, Ne.symm (ne1 L Llt).2, hD0⟩
      · exact ⟨old _ _ (N p hp).1, (N p hp).2⟩
  exact codeAny_compStart_dict (lp _) (W.self 0 _ _ _ (old _ _ hI0) (lp _))
open PySem.Spec PyProof.Rows.LCg in
inductive DcSrc (w : World) (A : Around) (h₀ : Heap) (L : Addr) (m : Str → Option Value) (env : Env) (kx vx : PySem.Expr) (x : Str) (scope : PySem.Scope) (cl : List (Str × Addr)) (n : Nat) (Q : Value → Shared → Prop) : Value → Shared → Prop
  | mk {s₁ : Shared} (r : Addr) (t u v : Tok) (news : Led) (Jv : Nat → List (Int × Value) → Led → Prop) (hr : IsRange s₁.heap r 0 (n : Int) 1 t u v) (F : Fr h₀ L s₁.heap m) (N : News h₀ L s₁.heap news) (hlim : h₀.NoLimit) (J0 : Jv 0 [] news)
    (turn : ∀ (i : Nat) kvs nw, i < n → Jv i kvs nw → ∀ t I oI oC C D oD m₂ h tk (E' : Value → Shared → Prop), Obj.IsDictOf (intKind PP w) oD kvs → NsObj oC m₂ → m₂ x = some (.int (i : Int) t) → Fr h₀ L h m → News h₀ L h ((I, oI) :: (C, oC) :: (D, oD) :: nw) → Off3 I C D nw →
        wpAny (model PP w) A (eval kx (compEnvC scope cl C env)) (fun kv s₄ => (∃ t', kv = .int (i : Int) t') ∧ wpAny (model PP w) A (eval vx (compEnvC scope cl C env)) (CompEnd h₀ L m { s₁ with heap := h, toks := tk } I oI C oC D oD (fun _ => True) (fun y n' => Jv (i + 1) (stored kvs i y) n')) E' s₄) E' { s₁ with heap := h, toks := tk })
    (fin : ∀ D oD h tk kvs nw, Jv n kvs nw → Obj.IsDictOf (intKind PP w) oD kvs → (D == sysModules) = false → Fr h₀ L h m → News h₀ L h ((D, oD) :: nw) → Off1 D nw → Q (.ref D) { s₁ with heap := h, toks := tk }) : DcSrc w A h₀ L m env kx vx x scope cl n Q (.ref r) s₁
open PySem.Spec PyProof.Rows.LCg in
inductive DcSrcA (w : World) (A : Around) (h₀ : Heap) (L : Addr) (m : Str → Option Value) (env : Env) (kx vx : PySem.Expr) (x y : Str) (scope : PySem.Scope) (cl : List (Str × Addr)) (n : Nat) (Q : Flow → Shared → Prop) : Value → Shared → Prop
  | mk {s₁ : Shared} (r : Addr) (t u v : Tok) (news : Led) (Jv : Nat → List (Int × Value) → Led → Prop) (hr : IsRange s₁.heap r 0 (n : Int) 1 t u v) (F : Fr h₀ L s₁.heap m) (N : News h₀ L s₁.heap news) (hlim : h₀.NoLimit) (J0 : Jv 0 [] news)
    (turn : ∀ (i : Nat) kvs nw, i < n → Jv i kvs nw → ∀ t I oI oC C D oD m₂ h tk (E' : Value → Shared → Prop), Obj.IsDictOf (intKind PP w) oD kvs → NsObj oC m₂ → m₂ x = some (.int (i : Int) t) → Fr h₀ L h m → News h₀ L h ((I, oI) :: (C, oC) :: (D, oD) :: nw) → Off3 I C D nw →
        wpAny (model PP w) A (eval kx (compEnvC scope cl C env)) (fun kv s₄ => (∃ t', kv = .int (i : Int) t') ∧ wpAny (model PP w) A (eval vx (compEnvC scope cl C env)) (CompEnd h₀ L m { s₁ with heap := h, toks := tk } I oI C oC D oD (fun _ => True) (fun y n' => Jv (i + 1) (stored kvs i y) n')) E' s₄) E' { s₁ with heap := h, toks := tk })
    (fin : ∀ D oD h tk kvs nw, Jv n kvs nw → Obj.IsDictOf (intKind PP w) oD kvs → (D == sysModules) = false → Fr h₀ L h (fun z => if z = y then some (.ref D) else m z) → News h₀ L h ((D, oD) :: nw) → Off1 D nw → Q .next { s₁ with heap := h, toks := tk }) : DcSrcA w A h₀ L m env kx vx x y scope cl n Q (.ref r) s₁
open PySem.Spec PyProof.Rows.LCg in
theorem dc_DictComp {w : World} {A : Around} {E : Value → Shared → Prop} {s : Shared} {h₀ : Heap} {L : Addr} {m : Str → Option Value} {env : Env} {kx vx iter : PySem.Expr} {x : Str} {px : Pos} {scope : PySem.Scope} {cl : List (Str × Addr)} {pos : Pos} {Q : Value → Shared → Prop} (n : Nat) (_F₀ : Fr h₀ L s.heap m)
    (hh : A.handled = none) (hclos : closureFor scope env = pure cl) (hcell : ∀ y ∈ scope.names, y.2 ≠ .cell) (hkind : scope.kind = .function) (hnames : ∀ y ∈ scope.names, y.2 = .local → scope.names.lookup y.1 = some .local) (hx : scope.names.lookup x = some .local) (hn : n ≤ 1000)
    (h : wpAny (model PP w) A (eval iter env) (DcSrc w A h₀ L m env kx vx x scope cl n Q) E s)
    (hs : ∀ x, foldedSetIterable iter env x = pure x := by intro _; rfl) :
    wpAny (model PP w) A (eval (.DictComp kx vx [⟨.Name x px, iter, [], 0⟩] scope pos) env) Q E s := by
  rw [arm_eval_DictComp]
  refine wpAny_comprehension_free (use := none) rfl hs hclos hkind hnames (wpAny_mono h (fun xv s₁ h₁ => ?_) fun _ _ e => e)
  obtain ⟨r, t, u, v, news, Jv, hr, F, N, hlim, J0, turn, fin⟩ := h₁
  have hsm : Builtin.Range.small 0 (n : Int) 1 = true := small_one (by omega) (by omega) (by omega) (by omega)
  refine wpAny_pyIter_range hr hsm ?_
  have hrs : Builtin.Range.rangeSize 0 (n : Int) 1 = ((n : Nat) : Int) := by
    have := rangeSize_nat 0 (n : Int); simpa using this
  rw [hrs]
  have up : ∀ b o, s₁.heap.get? b = some o → (s₁.heap.push { cls := .type "range_iterator", data := .fields #[rawInt 0, rawInt (n : Int), rawInt 1] }).get? b = some o := fun b o e => Heap.get?_push_of_some _ e
  refine dc_block (s₂ := { s₁ with heap := s₁.heap.push _ }) (L := L) (m := m) (news := news) Jv n hh hcell hkind hx hn (by simpa [itR] using Heap.get?_push_size s₁.heap rfl) (ktu_new F (Nat.le_refl _)) F.ns.lt (fun p hp => Heap.lt_size (N p hp).1) (F.keeps up) (N.grown up) hlim J0 turn fun C D oD h tk kvs nw m' hJ hdD lo F₂ N₂ o1 hns hCL hCn hC0 f => ⟨m', hns, fun h'' hs'' => fin D oD h'' tk kvs nw hJ hdD lo (F₂.change hs'' hCL hC0) (fun p hp => ⟨hs''.extBut _ _ (hCn p hp) (N₂ p hp).1, (N₂ p hp).2⟩) o1⟩
open PySem.Spec PyProof.Rows.LCg in
theorem dc_Assign {w : World} {A : Around} {E : Value → Shared → Prop} {s : Shared} {h₀ : Heap} {m : Str → Option Value} {env : Env} {kx vx iter : PySem.Expr} {x y : Str} {px py : Pos} {scope : PySem.Scope} {cl : List (Str × Addr)} {pos spos : Pos} {Q : Flow → Shared → Prop} (n : Nat) (_F₀ : Fr h₀ env.locals s.heap m)
    (hsw : swapsWith (.DictComp kx vx [⟨.Name x px, iter, [], 0⟩] scope pos) (some (.Name y py)) spos.line env = pure true)
    (hh : A.handled = none) (hclos : closureFor scope env = pure cl) (hcell : ∀ y ∈ scope.names, y.2 ≠ .cell) (hkind : scope.kind = .function) (hnames : ∀ y ∈ scope.names, y.2 = .local → scope.names.lookup y.1 = some .local) (hx : scope.names.lookup x = some .local) (hn : n ≤ 1000)
    (hy : env.scope.kind = .function) (hyl : env.kindOf y = some .local)
    (h : wpAny (model PP w) A (eval iter env) (DcSrcA w A h₀ env.locals m env kx vx x y scope cl n Q) E s)
    (hs : ∀ x, foldedSetIterable iter env x = pure x := by intro _; rfl) :
    wpAny (model PP w) A (exec (.Assign [.Name y py] (.DictComp kx vx [⟨.Name x px, iter, [], 0⟩] scope pos) spos) env) Q E s := by
  rw [exec_Assign_Name_used _ _ _ _ hsw]
  refine wpAny_bind (wpAny_standAt (wpAny_bind ?_))
  show wpAny _ A (do let _ ← comprehension (.DictComp kx vx [⟨.Name x px, iter, [], 0⟩] scope pos) scope env _ newDict false (eval iter env) (some (assign (.Name y py) env))) _ _ s
  refine wpAny_bind (wpAny_mono (wpAny_comprehension_free (use := some (assign (.Name y py) env)) (Q := fun _ s' => Q .next s') rfl hs hclos hkind hnames (wpAny_mono h (fun xv s₁ h₁ => ?_) fun _ _ e => e)) (fun _ s' hq => wpAny_pure (wpAny_pure hq)) fun _ _ e => e)
  obtain ⟨r, t, u, v, news, Jv, hr, F, N, hlim, J0, turn, fin⟩ := h₁
  have hsm : Builtin.Range.small 0 (n : Int) 1 = true := small_one (by omega) (by omega) (by omega) (by omega)
  refine wpAny_pyIter_range hr hsm ?_
  have hrs : Builtin.Range.rangeSize 0 (n : Int) 1 = ((n : Nat) : Int) := by
    have := rangeSize_nat 0 (n : Int); simpa using this
  rw [hrs]
  have up : ∀ b o, s₁.heap.get? b = some o → (s₁.heap.push { cls := .type "range_iterator", data := .fields #[rawInt 0, rawInt (n : Int), rawInt 1] }).get? b = some o := fun b o e => Heap.get?_push_of_some _ e
  refine dc_block (s₂ := { s₁ with heap := s₁.heap.push _ }) (L := env.locals) (m := m) (news := news) Jv n hh hcell hkind hx hn (by simpa [itR] using Heap.get?_push_size s₁.heap rfl) (ktu_new F (Nat.le_refl _)) F.ns.lt (fun p hp => Heap.lt_size (N p hp).1) (F.keeps up) (N.grown up) hlim J0 turn fun C D oD h tk kvs nw m' hJ hdD lo F₂ N₂ o1 hns hCL hCn hC0 f => ?_
  obtain ⟨oC, heC, hoC⟩ := ns_obj hns
  have N₃ : News h₀ env.locals h ((C, oC) :: (D, oD) :: nw) := fun p hp => by
    rcases List.mem_cons.mp hp with rfl | hp
    · exact ⟨heC, hCL, hC0⟩
    · exact N₂ p hp
  have hp : (env.scope.kind == .class || (env.scope.kind == .module && env.locals != env.globals)) = false := by rw [hy]; rfl
  refine wpAny_assign_Name (wpAny_storeName_local hyl F₂.ns (fun h₄ hn₄ hs₄ => ?_) hp)
  have F₄ := F₂.set hn₄ hs₄
  have N₄ := N₃.set hs₄
  exact ⟨m', hoC.ns (N₄ (C, oC) (.head _)).1, fun h'' hs'' => fin D oD h'' _ kvs nw hJ hdD lo (F₄.change hs'' hCL hC0) (fun p hp => ⟨hs''.extBut _ _ (hCn p hp) (N₄ p (.tail _ hp)).1, (N₄ p (.tail _ hp)).2⟩) o1⟩
end
section
theorem news_rot {h₀ h : Heap} {L : Addr} {a b c : Addr × Obj} {R : Led} (N : News h₀ L h (a :: b :: c :: R)) : News h₀ L h ([b, c] ++ (a :: R)) :=
  news_sub N fun p hp => by
    simp only [List.cons_append, List.nil_append, List.mem_cons] at hp ⊢
    rcases hp with h | h | h | h <;> simp [h]
noncomputable def ColAt (R : Led) (cs : List Value) (C : Int → Int → Int) : Prop :=
  ∀ n : Int, 0 ≤ n → n < 4 → ∃ e As, cs[n.toNat]? = some (.ref e) ∧ (e, tupObj (List.toArray As)) ∈ R ∧ ∀ i : Int, 0 ≤ i → i < 4 → ∃ t, As[i.toNat]? = some (.int (C n i) t)
inductive LaidJ (w : World) (R₀ : Led) (ra ba I : Addr) (m0 : Str → Option Value) (σ : St) : (Str → Option Value) → Led → Prop
  | mk (vs : List Value) (kvs : List (Int × Value)) (ob : Obj) (n : Nat) (R₁ : Led) (v : Option Value) (hob : ob.IsDictOf (intKind PP w) kvs) (hr : Rep w R₁ vs kvs σ) (hs : ∀ p ∈ R₀, p ∈ R₁) (ha : ∀ q ∈ R₁, @Ne Nat q.1 ra ∧ @Ne Nat q.1 ba ∧ @Ne Nat q.1 I) :
    LaidJ w R₀ ra ba I m0 σ (fun y => if y = Str.ofString "k" then v else m0 y) ((ra, listOf (List.toArray vs) n) :: (ba, ob) :: R₁)
theorem hM_of {ra ba I : Addr} {R1 : Led} {o' ol ob : Obj} (n1 : I ≠ ra) (n2 : I ≠ ba) (hap : ∀ q ∈ R1, @Ne Nat q.1 ra ∧ @Ne Nat q.1 ba ∧ @Ne Nat q.1 I) : ∀ p ∈ [(ra, ol), (ba, ob)], ∀ q ∈ (I, o') :: R1, @Ne Nat q.1 p.1 := by
  intro p hp q hq
  simp only [List.mem_cons, List.not_mem_nil, or_false] at hp hq
  rcases hp with rfl | rfl <;> rcases hq with rfl | hq
  · exact n1
  · exact (hap q hq).1
  · exact n2
  · exact (hap q hq).2.1
theorem allLt_get {d : Addr} : ∀ {l : Led}, AllLt d l → ∀ p ∈ l, @LT.lt Nat _ p.1 d
  | [], _, _, h => absurd h (List.not_mem_nil)
  | _ :: _, x, p, h => by
    rcases List.mem_cons.mp h with rfl | h
    · exact x.1
    · exact allLt_get x.2 p h
inductive PState (w : World) (R : Led) (σ : St) : Value → Led → Prop
  | mk (s : Addr) (A : Led) (h : StAt w A (A ++ R) s σ) : PState w R σ (.ref s) A
theorem PState.el {w : World} {R : Led} {σ : St} (K : Value → Led → Prop) (k : ∀ s A, StAt w A (A ++ R) s σ → K (.ref s) A) (r : Value) (A : Led) (h : PState w R σ r A) : K r A := by cases h; exact k _ _ (by assumption)
theorem laid_ret {Q₀ : Flow → Shared → Prop} {w : World} {g : Heap} {L : Addr} {h' : Heap} {m' : Str → Option Value} {tk' : Nat} {s₀ : Shared} {R R1 : Led} {rr ra ba : Addr} {ob : Obj} {vs : List Value} {kvs : List (Int × Value)} {n : Nat} {σ : St}
    (F : Fr g L h' m') (N : News g L h' ((rr, tupObj #[.ref ra, .ref ba]) :: (ra, listOf vs.toArray n) :: (ba, ob) :: R1)) (hRs : ∀ p ∈ R, p ∈ R1) (a1 : ∀ q ∈ R, @Ne Nat q.1 rr) (a2 : ∀ q ∈ R, @Ne Nat q.1 ra) (a3 : ∀ q ∈ R, @Ne Nat q.1 ba)
    (lo : (ba == sysModules) = false) (hob : ob.IsDictOf (intKind PP w) kvs) (hrep : Rep w R1 vs kvs σ) {P' : Value → Led → Prop} (hP : ∀ r A, PState w R σ r A → P' r A) (hq : ∀ v s', Ret g s₀ R P' v s' → Q₀ (.ret v) s') :
    Q₀ (.ret (.ref rr)) { s₀ with heap := h', toks := tk' } := by
  refine hq _ _ ⟨L, m', (rr, tupObj #[.ref ra, .ref ba]) :: (ra, listOf vs.toArray n) :: (ba, ob) :: R1.filter (fun p => decide (p.1 ∉ R.map (·.1))), h', tk', rfl, F, news_sub N fun p hp => ?_, news_sub N fun p hp => ?_, fun p hp q hq => ?_, hP _ _ (.mk _ _ ⟨ra, ba, vs, n, kvs, ob, by simp, by simp, by simp, hob, lo, hrep.mono fun p hp => ?_⟩)⟩
  · simp only [List.mem_cons, List.mem_filter] at hp ⊢
    rcases hp with h | h | h | h <;> simp [h]
  · exact .tail _ (.tail _ (.tail _ (hRs p hp)))
  · simp only [List.mem_cons, List.mem_filter] at hp
    rcases hp with rfl | rfl | rfl | hp
    · exact a1 q hq
    · exact a2 q hq
    · exact a3 q hq
    · have := of_decide_eq_true hp.2
      exact fun e => this (List.mem_map.mpr ⟨q, hq, e⟩)
  · by_cases hm : p.1 ∈ R.map (·.1)
    · obtain ⟨q, hq, e⟩ := List.mem_map.mp hm
      have h1 := (N p (.tail _ (.tail _ (.tail _ hp)))).1
      have h2 := (N q (.tail _ (.tail _ (.tail _ (hRs q hq))))).1
      have e' : q.1 = p.1 := e
      rw [e', h1] at h2
      have : q = p := Prod.ext e' (Option.some.inj h2).symm
      exact List.mem_append_right _ (this ▸ hq)
    · refine List.mem_append_left _ (.tail _ (.tail _ (.tail _ ?_)))
      exact List.mem_filter.mpr ⟨hp, decide_eq_true hm⟩
theorem news_rot0 {h₀ h : Heap} {L : Addr} {a b c : Addr × Obj} {R : Led} (N : News h₀ L h (a :: b :: c :: R)) : News h₀ L h (b :: c :: ([] ++ a :: R)) :=
  news_sub N fun p hp => by
    simp only [List.nil_append, List.mem_cons] at hp ⊢
    rcases hp with h | h | h | h <;> simp [h]
theorem newZ {ra ba I x1 x2 x3 x4 x5 x6 : Addr} {o' a b p1 p2 p3 p4 p5 p6 : Obj} {R1 : Led} (ap : ∀ x ∈ [x1, x2, x3, x4, x5, x6], Apt x ra ∧ Apt x ba)
    (Z : ∀ p ∈ [(ra, a), (ba, b), (x1, p1), (x2, p2), (x3, p3), (x4, p4), (x5, p5), (x6, p6)], AptL p.1 ((I, o') :: R1)) :
    ∀ q ∈ [(x1, p1), (x2, p2), (x3, p3), (x4, p4), (x5, p5), (x6, p6)], @Ne Nat q.1 ra ∧ @Ne Nat q.1 ba ∧ @Ne Nat q.1 I := by
  intro q hq
  have hz := (Z q (.tail _ (.tail _ hq))).get (I, o') (.head _)
  simp only [List.mem_cons, List.not_mem_nil, or_false] at hq
  have ap' : Apt q.1 ra ∧ Apt q.1 ba := by
    rcases hq with rfl | rfl | rfl | rfl | rfl | rfl <;> exact ap _ (by simp)
  exact ⟨ap'.1.ne, ap'.2.ne, fun e => hz e.symm⟩
theorem turn_end {w : World} {g : Heap} {L : Addr} {h' : Heap} {tk : Nat} {s₁ : Shared} {R₀ R1 new : Led} {I ra ba : Addr} {o' ob' : Obj} {vs' : List Value} {kvs' : List (Int × Value)} {n : Nat} {σ' : St} {kp : Addr × Obj} {m' m0 : Str → Option Value} {v : Option Value}
    (F : Fr g L h' m') (N : News g L h' ((ra, listOf vs'.toArray n) :: (ba, ob') :: (new ++ (I, o') :: R1))) (hob : ob'.IsDictOf (intKind PP w) kvs') (hrep : Rep w (new ++ R1) vs' kvs' σ') (hsub : ∀ p ∈ R₀, p ∈ R1)
    (hap : ∀ q ∈ R1, @Ne Nat q.1 ra ∧ @Ne Nat q.1 ba ∧ @Ne Nat q.1 I) (hnew : ∀ q ∈ new, @Ne Nat q.1 ra ∧ @Ne Nat q.1 ba ∧ @Ne Nat q.1 I) (n1 : I ≠ ra) (n2 : I ≠ ba) (hm : m' = fun y => if y = Str.ofString "k" then v else m0 y) (hk : kp ∈ R1) :
    UnrEndW g L s₁ [(I, o')] (fun m' n' => SubL [kp] n' ∧ LaidJ w R₀ ra ba I m0 σ' m' n') { s₁ with heap := h', toks := tk } := by
  have hx : ∀ q ∈ new ++ R1, @Ne Nat q.1 ra ∧ @Ne Nat q.1 ba ∧ @Ne Nat q.1 I := fun q hq => (List.mem_append.mp hq).elim (hnew q) (hap q)
  refine ⟨h', tk, m', (ra, listOf vs'.toArray n) :: (ba, ob') :: (new ++ R1), rfl, F, news_sub N fun p hp => ?_, fun p hp q hq => ?_, ⟨by simp [hk], trivial⟩, hm ▸ .mk vs' kvs' ob' n (new ++ R1) v hob hrep (fun p hp => List.mem_append_right _ (hsub p hp)) hx⟩
  · simp only [List.mem_cons, List.mem_append, List.cons_append, List.nil_append] at hp ⊢
    rcases hp with h | h | h | h | h <;> simp [h]
  · have hq' : q = (I, o') := by simpa using hq
    subst hq'
    simp only [List.mem_cons] at hp
    rcases hp with rfl | rfl | hp
    · exact fun e => n1 e.symm
    · exact fun e => n2 e.symm
    · exact (hx p hp).2.2
theorem laid_iter {w : World} {A : Around} {E : Value → Shared → Prop} {h₀ : Heap} {env : Env} {target : PySem.Expr} {body : List Stmt} {Q : Flow → Shared → Prop} {s : Shared} {R : Led} {turns ra ba x dd tt : Addr} {ob ox od ot : Obj} {vs : List Value} {kvs : List (Int × Value)} {σ : St} {n : Nat} {m0 : Str → Option Value} {ks : List (Fin 3 × Tok)} {nxt : St → Fin 3 × Tok → St}
    (hh : A.handled = none) (F : Fr h₀ env.locals s.heap m0) (N : News h₀ env.locals s.heap ((x, ox) :: (dd, od) :: (tt, ot) :: (ba, ob) :: (ra, listOf vs.toArray n) :: R)) (h10 : (turns, tupObj (ks.map fun x => Value.int (x.1.val : Int) x.2).toArray) ∈ R)
    (l1 : ∀ q ∈ R, q.1 < ra) (l2 : @LT.lt Nat _ ra ba) (l3 : @LT.lt Nat _ ba tt) (l4 : @LT.lt Nat _ tt dd) (l5 : @LT.lt Nat _ dd x) (hob : ob.IsDictOf (intKind PP w) kvs) (hrep : Rep w R vs kvs σ)
    (step : ∀ I (z : Fin 3 × Tok) σ m news, LaidJ w ((x, ox) :: (dd, od) :: R) ra ba I m0 σ m news → I ≠ ra → I ≠ ba → ∀ v h tk, (Itm.val (Value.int (z.1.val : Int) z.2)).Is v h → Fr h₀ env.locals h m → AllObj [(I, "tuple_iterator")] (fun its => News h₀ env.locals h (its ++ news) →
      wpAny (model PP w) A (assign target env v) (fun _ s₂ => wpAny (model PP w) A (execs body env) (UnrPostW h₀ env.locals { s with heap := h, toks := tk } its (fun m' n' => SubL [(turns, tupObj (ks.map fun x => Value.int (x.1.val : Int) x.2).toArray)] n' ∧ LaidJ w ((x, ox) :: (dd, od) :: R) ra ba I m0 (nxt σ z) m' n') Q) E s₂) E { s with heap := h, toks := tk }))
    (fin : ∀ I m news, LaidJ w ((x, ox) :: (dd, od) :: R) ra ba I m0 (ks.foldl nxt σ) m news → ∀ h tk, Fr h₀ env.locals h m → News h₀ env.locals h news → Q .next { s with heap := h, toks := tk }) :
    wpAny (model PP w) A (pyIter (.ref turns)) (fun it s₂ => TurnsAt PP w A h₀ env target body Q E it s₂) E s := by
  have N2 : News h₀ env.locals s.heap ((ra, listOf vs.toArray n) :: (ba, ob) :: (x, ox) :: (dd, od) :: R) := news_sub N fun p hp => by
    simp only [List.mem_cons] at hp ⊢
    rcases hp with h | h | h | h | h <;> simp [h]
  have ht : (turns, tupObj (ks.map fun x => Value.int (x.1.val : Int) x.2).toArray) ∈ (ra, listOf vs.toArray n) :: (ba, ob) :: (x, ox) :: (dd, od) :: R := by simp [h10]
  refine iter_tupTurns (vs := ks.map fun x => Value.int (x.1.val : Int) x.2) hh F N2 ht rfl rfl fun I hI => ?_
  rw [List.map_map]
  have ia : @LT.lt Nat _ ra I := hI (ra, listOf vs.toArray n) (by simp)
  have ib : @LT.lt Nat _ ba I := hI (ba, ob) (by simp)
  have ix : @LT.lt Nat _ x I := hI (x, ox) (by simp)
  have id' : @LT.lt Nat _ dd I := hI (dd, od) (by simp)
  refine items_ind (fun x : Fin 3 × Tok => Itm.val (Value.int (x.1.val : Int) x.2)) nxt (LaidJ w ((x, ox) :: (dd, od) :: R) ra ba I m0) (fun z σ m news hJ v h tk hv F' => ?_) ks σ m0 _ ?_ (fin I)
  · exact step I z σ m news hJ (Nat.ne_of_gt ia) (Nat.ne_of_gt ib) v h tk hv F'
  · have em : (fun y => if y = Str.ofString "k" then m0 (Str.ofString "k") else m0 y) = m0 := by
      funext y
      by_cases h : y = Str.ofString "k" <;> simp [h]
    refine Eq.mp (congrArg (fun z => LaidJ w ((x, ox) :: (dd, od) :: R) ra ba I m0 σ z ((ra, listOf vs.toArray n) :: (ba, ob) :: (x, ox) :: (dd, od) :: R)) em) (.mk vs kvs ob n ((x, ox) :: (dd, od) :: R) (m0 (Str.ofString "k")) hob (hrep.mono fun p hp => .tail _ (.tail _ hp)) (fun _ h => h) (fun q hq => ?_))
    · simp only [List.mem_cons] at hq
      rcases hq with rfl | rfl | hq
      · exact ⟨Nat.ne_of_gt (by omega), Nat.ne_of_gt (by omega), Nat.ne_of_lt ix⟩
      · exact ⟨Nat.ne_of_gt (by omega), Nat.ne_of_gt (by omega), Nat.ne_of_lt id'⟩
      · have := l1 q hq
        have e : @LT.lt Nat _ q.1 ra := this
        exact ⟨Nat.ne_of_lt e, Nat.ne_of_lt (by omega), Nat.ne_of_lt (by omega)⟩
noncomputable def CmpAt (w : World) (R : Led) (keys : Addr) (cs : List Value) (cf : Int → Int → Int) : Prop :=
  ∀ (ord dx e1 e2 : Addr) (hsh : Int) (ktk : Tok) (R' : Led) (na nb : Int), (0 ≤ na ∧ na < 4) → (0 ≤ nb ∧ nb < 4) → cs[na.toNat]? = some (.ref e1) → cs[nb.toNat]? = some (.ref e2) → (∀ p ∈ R, p ∈ R') → (ord, instObj 73 dx) ∈ R' → (dx, dictOf [⟨hsh, .str (Str.ofString "comp_select_list") ktk, .ref keys⟩] 1) ∈ R' →
    Con w 1 70 [.ref ord, .ref e1, .ref e2] [] R' (PInt (cf na nb))
theorem cmp2_at {w : World} {R : Led} {keys q0 q1 : Addr} {i d i' d' : Int} {t1 t2 t3 t4 : Tok} {cs : List Value} {C : Int → Int → Int} (h6 : (keys, tupObj #[.ref q0, .ref q1]) ∈ R) (h7 : (q0, tupObj #[.int i t1, .int d t2]) ∈ R) (h8 : (q1, tupObj #[.int i' t3, .int d' t4]) ∈ R)
    (hi : 0 ≤ i ∧ i < 4) (hi' : 0 ≤ i' ∧ i' < 4) (hC : ColAt R cs C) : CmpAt w R keys cs fun a b => cmp2 (C a i) (C b i) d (C a i') (C b i') d' := by
  intro ord dx e1 e2 hsh ktk R' na nb hna hnb c1 c2 hs m1 m2
  obtain ⟨x1, As, k1, n1, hA⟩ := hC na hna.1 hna.2
  obtain ⟨x2, Bs, k2, n2, hB⟩ := hC nb hnb.1 hnb.2
  obtain rfl : e1 = x1 := by rw [c1] at k1; exact Value.ref.inj (Option.some.inj k1)
  obtain rfl : e2 = x2 := by rw [c2] at k2; exact Value.ref.inj (Option.some.inj k2)
  obtain ⟨s1, a1⟩ := hA i hi.1 hi.2
  obtain ⟨s2, a2⟩ := hA i' hi'.1 hi'.2
  obtain ⟨s3, b1⟩ := hB i hi.1 hi.2
  obtain ⟨s4, b2⟩ := hB i' hi'.1 hi'.2
  refine con_mono (compare2_con (dx := dx) (keys := keys) (q0 := q0) (q1 := q1) (t1 := t1) (t2 := t2) (t1' := t3) (t2' := t4) (hsh := hsh) (ktk := ktk) hi a1 b1 hi' a2 b2) fun p hp => ?_
  simp only [List.mem_cons, List.not_mem_nil, or_false] at hp
  rcases hp with rfl | rfl | rfl | rfl | rfl | rfl | rfl
  · exact m1
  · exact m2
  · exact hs _ h6
  · exact hs _ h7
  · exact hs _ h8
  · exact hs _ n1
  · exact hs _ n2
theorem cmp1_at {w : World} {R : Led} {keys q0 : Addr} {i d : Int} {t1 t2 : Tok} {cs : List Value} {C : Int → Int → Int} (h6 : (keys, tupObj #[.ref q0]) ∈ R) (h7 : (q0, tupObj #[.int i t1, .int d t2]) ∈ R)
    (hi : 0 ≤ i ∧ i < 4) (hC : ColAt R cs C) : CmpAt w R keys cs fun a b => cmp1 (C a i) (C b i) d := by
  intro ord dx e1 e2 hsh ktk R' na nb hna hnb c1 c2 hs m1 m2
  obtain ⟨x1, As, k1, n1, hA⟩ := hC na hna.1 hna.2
  obtain ⟨x2, Bs, k2, n2, hB⟩ := hC nb hnb.1 hnb.2
  obtain rfl : e1 = x1 := by rw [c1] at k1; exact Value.ref.inj (Option.some.inj k1)
  obtain rfl : e2 = x2 := by rw [c2] at k2; exact Value.ref.inj (Option.some.inj k2)
  obtain ⟨s1, a1⟩ := hA i hi.1 hi.2
  obtain ⟨s3, b1⟩ := hB i hi.1 hi.2
  refine con_mono (compare1_con (dx := dx) (keys := keys) (q0 := q0) (t1 := t1) (t2 := t2) (hsh := hsh) (ktk := ktk) hi a1 b1) fun p hp => ?_
  simp only [List.mem_cons, List.not_mem_nil, or_false] at hp
  rcases hp with rfl | rfl | rfl | rfl | rfl | rfl
  · exact m1
  · exact m2
  · exact hs _ h6
  · exact hs _ h7
  · exact hs _ n1
  · exact hs _ n2
theorem laid_con {w : World} {R : Led} {st keys cols turns : Addr} {σ : St} {cs : List Value} {nc : Nat} {co : Int → Int → Int} {ks : List (Fin 3 × Tok)}
  (hst : StAt w R R st σ) (h9 : (cols, listOf cs.toArray nc) ∈ R) (hcs : ∀ n : Int, 0 ≤ n → n < 4 → ∃ e, cs[n.toNat]? = some (.ref e)) (hcmp : CmpAt w R keys cs co)
  (h10 : (turns, tupObj (ks.map fun x => Value.int (x.1.val : Int) x.2).toArray) ∈ R) :
  Con w 4 206 [.ref st, .ref keys, .ref cols, .ref turns] [] R (PState w R (ks.foldl (fun σ x => turn co σ x.1.val) σ)) := by
  obtain ⟨la, da, vs, n, kvs, od, h1, h2, h3, h5, h4, hR⟩ := hst
  have hz1 : vs.toArray.size ≤ sizeLine := by rw [List.size_toArray, hR.lv]; exact Nat.le_of_ble_eq_true rfl
  have hz2 : kvs.length ≤ sizeLine := by
    have := congrArg List.length hR.keys
    rw [List.length_map] at this
    rw [this]; exact Nat.le_of_ble_eq_true rfl
  (k_with "left 7" => skip)
  (k_with "left 9" => skip)
  (k_with "left 8" => skip)
  (k_with "call ref" => (fail_if_success k_extra "left 10"); ((k_here; k_dflt (refine' con_use0 PBool.el gt_con ?w₉k1 ?w₉k2 ?w₉k3 ?w₉k4 ?w₉k5 ?w₉kK ?w₉kI ?w₉kd ?w₉ku ?_); (case w₉k1 => k_asm); (case w₉k2 => k_asm); (case w₉k3 => k_asm); (case w₉k4 => k_asm); (case w₉k5 => k_asm); (case w₉kK => first | exact rfl | assumption); (case w₉kI => first | (intro _ hp₉; replace hp₉ := hsub _ hp₉; (repeat' first | exact hp₉ | refine List.Mem.tail _ ?_); done) | walk_at "my sub"); (case w₉kd => (first | omega | ktr_room)); (case w₉ku => (first | omega | ktr_units)); k_whole; intro  h₉ tk₉ F₉ N₉; (try dsimp only); (try k_sweep))))
  (k_with "call ref" => (fail_if_success k_extra "left 10"); ((k_here; k_dflt (refine' con_use0 PInt.el (hcmp _ _ _ _ _ _ _ _ _ hnf hnb hc1 hc2 hRs hx1 hx2) ?w₉k1 ?w₉k2 ?w₉k3 ?w₉k4 ?w₉k5 ?w₉kK ?w₉kI ?w₉kd ?w₉ku ?_); (case w₉k1 => k_asm); (case w₉k2 => k_asm); (case w₉k3 => k_asm); (case w₉k4 => k_asm); (case w₉k5 => k_asm); (case w₉kK => first | exact rfl | assumption); (case w₉kI => first | (intro _ hp₉; replace hp₉ := hsub _ hp₉; (repeat' first | exact hp₉ | refine List.Mem.tail _ ?_); done) | walk_at "my sub"); (case w₉kd => (first | omega | ktr_room)); (case w₉ku => (first | omega | ktr_units)); k_whole; intro t₉ h₉ tk₉ F₉ N₉; (try dsimp only); (try k_sweep))))
  (k_with "my item" => (fail_if_success k_extra "left 10"); ((k_here; (with_reducible show wpAny _ _ (subscriptTail _ _ (Value.ref _) (Value.int _ _)) _ _ _); k_dflt (refine' item_sym ?w₉N ?w₉m ?w₉a ?w₉b ?w₉x ?_; (case w₉N => k_asm); (case w₉m => k_mem); (case w₉a => omega); (case w₉b => omega); (case w₉x => assumption)))))
  (k_with "subscriptTail Name Name ref int" => (fail_if_success k_extra "left 10"); (walk_at "my item"))
  (k_with "subscriptTail Name BinOp ref int" => (fail_if_success k_extra "left 10"); (walk_at "my item"))
  (k_with "subscriptTail Name Subscript ref int" => (fail_if_success k_extra "left 10"); (walk_at "my item"))
  refine con_gen (fun P' hPP => ?_)
  refine' con_plain (binds := [(_, _), (_, _), (_, _), (_, _)]) ?ho ?hfd ?hcd ?hb ?hl ?c1 ?c2 ?c3 ?c4 ?hh; (case ho => k_dflt k_is); (case hfd => refine' fd_lit ?x1 ?x2 ?x3; (case x1 => (conv => lhs; whnf)); (case x2 => (conv => lhs; whnf)); (case x3 => (conv => lhs; whnf))); (case hcd => k_dflt k_is); (case hb => exact rfl); (case hl => exact locs rfl); (case c1 => exact rfl); (case c2 => exact rfl); (case c3 => exact rfl); (case c4 => decide)
  intro loose mean mg mb dp un gd outer A₀ base g L h₁ s₀ tk Q₀ hq₀ hn₀ B F X N T hd hu
  (try simp only [List.cons_append, List.nil_append, List.append_nil] at N)
  (try dsimp only [List.reverse, List.reverseAux] at F)
  (try dsimp only)
  (try k_fold)
  (first | (refine letAE ?_; intro A9 E9) | skip)
  repeat' (first | (k_unfold; (try dsimp only)) | (with_reducible refine hideQ ?_; intro Q9 hQ9) | (with_reducible refine hideQ2 ?_; intro Q9 hQ9) | (with_reducible refine hQ9 _ _ ?_; try clear hQ9 Q9) | walk1 | (dsimp only; walk1) | (dsimp only; k_unfold; (try dsimp only)) | fail "no step")
  (rename (∀ q ∈ R, q.1 < _) => lR)
  (rename (@LT.lt Nat _ _ _ ∧ AllLt _ R) => lA)
  refine laid_iter (nxt := fun σ x => turn co σ x.1.val) rfl (by k_asm) (by k_asm) h10 (by k_asm) ?l2 ?l3 ?l4 ?l5 (by k_asm) hR ?step ?fin
  (case l2 => omega)
  (case l3 => omega)
  (case l4 => omega)
  (case l5 => omega)
  (case step =>
    intro I z σ m news hJ nI1 nI2 v h tk hv F2
    obtain ⟨vs2, kvs2, ob2, n2, R1, v0, hob2, hrep, hsub, hap⟩ := hJ
    obtain ⟨⟨k, hk⟩, tk2⟩ := z
    have hv' : v = Value.int (k : Int) tk2 := hv
    subst hv'
    refine hide_goal fun X9 hX9 => ?_
    obtain ⟨f, ef⟩ : ∃ f, σ.row[k]? = some f := ⟨_, List.getElem?_eq_getElem (by rw [hrep.lr]; omega)⟩
    obtain ⟨b, eb⟩ : ∃ b, σ.row[k + 1]? = some b := ⟨_, List.getElem?_eq_getElem (by rw [hrep.lr]; omega)⟩
    obtain ⟨tf, ev1, k1, k2, k3, mf⟩ := hrep.row _ _ ef
    obtain ⟨tb, ev2, k4, k5, k6, mb⟩ := hrep.row _ _ eb
    have hnf := hrep.nms _ _ ef
    have hnb := hrep.nms _ _ eb
    obtain ⟨yf, ebf, cf, ocf, a1, a2, a3, a4, x0, x1, x2, x3, mbf, mcf, lcf, dcf⟩ := hrep.bk f.nm hnf.1 hnf.2
    obtain ⟨yb, ebb, cb, ocb, b1, b2, b3, b4, y0, y1, y2, y3, mbb, mcb, lcb, dcb⟩ := hrep.bk b.nm hnb.1 hnb.2
    obtain ⟨e1, hc1⟩ := hcs f.nm hnf.1 hnf.2
    obtain ⟨e2, hc2⟩ := hcs b.nm hnb.1 hnb.2
    have hne : f.nm ≠ b.nm := hrep.dis _ _ _ _ ef eb (by omega)
    have hbb : ∀ v, valueAt (stored kvs2 f.nm v) b.nm = some (.ref yb) := fun v => by rw [valueAt_stored, if_neg (Ne.symm hne)]; exact ebb
    have hkl : kvs2.length = 4 := by have := congrArg List.length hrep.keys; simpa using this
    have w1 : vs2[((k : Int)).toNat]? = some (.ref tf) := by simpa using ev1
    have w2 : vs2[((k : Int) + 1).toNat]? = some (.ref tb) := by have e : ((k : Int) + 1).toNat = k + 1 := by omega
                                                                 rw [e]; exact ev2
    have hk0 : 0 ≤ (k : Int) ∧ (k : Int) < 3 := by omega
    have hx1 := hsub _ (.head _)
    have hx2 := hsub _ (.tail _ (.head _))
    have hRs : ∀ p ∈ R, p ∈ R1 := fun p hp => hsub _ (.tail _ (.tail _ hp))
    have h9' := hRs _ h9
    have h10' := hsub _ (.tail _ (.tail _ h10))
    refine hX9 ?_
    clear hX9 X9
    refine AllObj.cons (fun o' hc' => AllObj.nil (fun N2 => ?_))
    simp only [List.cons_append, List.nil_append] at N2

    (try dsimp only)
    have hI : ∀ p ∈ [(tf, tupObj #[.int f.nm k1, .int f.l k2, .int f.r k3]), (tb, tupObj #[.int b.nm k4, .int b.l k5, .int b.r k6]), (yf, tupObj #[.int (σ.bk f.nm).on a1, .int (σ.bk f.nm).mo a2, .int (σ.bk f.nm).gv a3, .int (σ.bk f.nm).tk a4, .ref cf]), (yb, tupObj #[.int (σ.bk b.nm).on b1, .int (σ.bk b.nm).mo b2, .int (σ.bk b.nm).gv b3, .int (σ.bk b.nm).tk b4, .ref cb]), (cf, ocf), (cb, ocb)], p ∈ (I, o') :: R1 := by
      intro p hp
      simp only [List.mem_cons, List.not_mem_nil, or_false] at hp
      rcases hp with rfl | rfl | rfl | rfl | rfl | rfl
      · exact .tail _ mf
      · exact .tail _ mb
      · exact .tail _ mbf
      · exact .tail _ mbb
      · exact .tail _ mcf
      · exact .tail _ mcb
    repeat' (first | (k_unfold; (try dsimp only)) | (with_reducible refine hideQ ?_; intro Q9 hQ9) | (with_reducible refine hideQ2 ?_; intro Q9 hQ9) | (with_reducible refine hQ9 _ _ ?_; try clear hQ9 Q9) | walk1 | (dsimp only; walk1) | (dsimp only; k_unfold; (try dsimp only)) | fail "no step")
    · (with_reducible rename (0 < co _ _) => hlt)
      refine con_useM PPast.el (past_con hk0 hrep.lv w1 w2 hnf hnb (by assumption) lcf lcb hkl hob2 ebf hbb dcf dcb ⟨by omega⟩ ⟨(hap _ mf).1⟩ ⟨(hap _ mb).1⟩ ⟨(hap _ mbf).1⟩ ⟨(hap _ mbb).1⟩ ⟨(hap _ mcf).1⟩ ⟨(hap _ mcb).1⟩ ⟨(hap _ mf).2.1⟩ ⟨(hap _ mb).2.1⟩ ⟨(hap _ mbf).2.1⟩ ⟨(hap _ mbb).2.1⟩ ⟨(hap _ mcf).2.1⟩ ⟨(hap _ mcb).2.1⟩) (by k_asm) (by k_asm) (by k_asm) (news_rot (by k_asm)) (by k_asm) rfl hI (hM_of nI1 nI2 hap) (by ktr_room) (by ktr_units) ?ret
      intro ob' xb xf yf' df yb' db o1 o2 j0 j1 j2 j3 j4 j5 j6 j7 j8 j9 j10 j11 j12 j13 j14 j15 j16 j17 j18 j19 j20 j21 l1' l2' d1 d2 d3 ap h3 tk3 F3 N3 Z3
      simp only [List.cons_append, List.nil_append] at N3
      (try dsimp only)
      repeat' (first | (k_unfold; (try dsimp only)) | (with_reducible refine hideQ ?_; intro Q9 hQ9) | (with_reducible refine hideQ2 ?_; intro Q9 hQ9) | (with_reducible refine hQ9 _ _ ?_; try clear hQ9 Q9) | walk1 | (dsimp only; walk1) | (dsimp only; k_unfold; (try dsimp only)) | fail "no step")
      have eT : turn co σ k = past σ k := by
        simp only [turn, ef, eb]
        rw [if_pos hlt]
      refine turn_end (v := some (Value.int (k : Int) tk2)) (σ' := turn co σ k) (by k_asm) N3 d1 ?rep hsub hap (newZ ap Z3) nI1 nI2 ?mm h10'
      (case rep =>
        rw [eT]
        exact past_rep hrep ef eb (fun p hp => List.mem_append_right _ hp) ⟨j0, j1, j2, by simp [backT, mor, gvs, tks]⟩ ⟨j3, j4, j5, by simp [frontT, mor, gvs, tks]⟩
          ⟨df, o1, j6, j7, j8, j9, j14, j15, j16, j17, by simp [frontB, mor, gvs, tks], by simp, l1', by simpa [frontB] using d2⟩
          ⟨db, o2, j10, j11, j12, j13, j18, j19, j20, j21, by simp [backB, mor, gvs, tks], by simp, l2', by simpa [backB] using d3⟩)
      (case mm => funext y; by_cases hy : y = Str.ofString "k" <;> simp [hy])
    · (with_reducible rename (¬ 0 < co _ _) => hlt)
      have eT : turn co σ k = σ := by
        simp only [turn, ef, eb]
        rw [if_neg hlt]
      refine turn_end (v := some (Value.int (k : Int) tk2)) (new := []) (σ' := turn co σ k) (by k_asm) (news_rot0 (by k_asm)) hob2 ?rep hsub hap (fun q hq => absurd hq (List.not_mem_nil)) nI1 nI2 ?mm h10'
      (case rep => rw [eT]; exact hrep)
      (case mm => funext y; by_cases hy : y = Str.ofString "k" <;> simp [hy]))
  (case fin =>
    intro I m news hJ h tk9 F2 N2
    obtain ⟨vs2, kvs2, ob2, n2, R1, v0, hob2, hrep, hsub, hap⟩ := hJ
    have hRs : ∀ p ∈ R, p ∈ R1 := fun p hp => hsub _ (.tail _ (.tail _ hp))
    dsimp only
    repeat' (first | (k_unfold; (try dsimp only)) | (with_reducible refine hideQ ?_; intro Q9 hQ9) | (with_reducible refine hideQ2 ?_; intro Q9 hQ9) | (with_reducible refine hQ9 _ _ ?_; try clear hQ9 Q9) | walk1 | (dsimp only; walk1) | (dsimp only; k_unfold; (try dsimp only)) | fail "no step")
    (rename (_ ∧ _ ∧ AllLt _ R1) => lZ)
    exact laid_ret (by k_asm) (by k_asm) hRs (fun q hq => Nat.ne_of_lt (allLt_get lZ.2.2 q (hRs q hq))) (fun q hq => (hap q (hRs q hq)).1) (fun q hq => (hap q (hRs q hq)).2.1) (by assumption) hob2 hrep hPP hq₀)

end
section
inductive TollJ (R : Led) (L I : Addr) (side : Int) (ts : Tok) (m0 : Str → Option Value) (k : Nat) (T : List Int) : (Str → Option Value) → Led → Prop
  | mk (oSt oTh oLe oSi : Obj) (l : Addr) (vs : List Value) (nl : Nat) (v1 v2 : Option Value) (d1 : oSt.data = .cell v1) (d2 : oTh.data = .cell v2)
    (d3 : oLe.data = .cell (some (.ref l))) (d4 : oSi.data = .cell (some (.int side ts))) (hT : IntsAre vs T) (h1 : 1 ≤ T.length) (h2 : T.length + k = 5) (a1 : Apt l (L + 1 + 1 + 1 + 1)) (a2 : Apt l (L + 1 + 1 + 1)) (a3 : Apt l (L + 1 + 1)) (a4 : Apt l (L + 1)) (a5 : Apt l I) (aR : AllLt l R) :
    TollJ R L I side ts m0 k T m0 ((l, listOf (List.toArray vs) nl) :: (L + 1 + 1 + 1 + 1, oSt) :: (L + 1 + 1 + 1, oTh) :: (L + 1 + 1, oLe) :: (L + 1, oSi) :: R)
theorem toll_iter {w : World} {A : Around} {E : Value → Shared → Prop} {h₀ : Heap} {env : Env} {target : PySem.Expr} {body : List Stmt} {Q : Flow → Shared → Prop} {s : Shared} {R : Led} {ls l L : Addr} {oSt oTh oLe oSi : Obj} {v1 v2 : Option Value} {rs : List {x : Addr × Th // ThAt R x.1 x.2}} {n nl : Nat} {side : Int} {ts t0 : Tok} {m0 : Str → Option Value}
    (hh : A.handled = none) (F : Fr h₀ env.locals s.heap m0) (N : News h₀ env.locals s.heap ((l, listOf #[.int 0 t0] nl) :: (L + 1 + 1 + 1 + 1, oSt) :: (L + 1 + 1 + 1, oTh) :: (L + 1 + 1, oLe) :: (L + 1, oSi) :: R)) (h1 : (ls, listOf (rs.map fun x => Value.ref x.1.1).toArray n) ∈ R) (h4 : rs.length = 4)
    (d1 : oSt.data = .cell v1) (d2 : oTh.data = .cell v2) (d3 : oLe.data = .cell (some (.ref l))) (d4 : oSi.data = .cell (some (.int side ts))) (a1 : Apt l (L + 1 + 1 + 1 + 1)) (a2 : Apt l (L + 1 + 1 + 1)) (a3 : Apt l (L + 1 + 1)) (a4 : Apt l (L + 1)) (aR : AllLt l R)
    (step : ∀ I ta th k T (oSt oTh oLe oSi : Obj) (l : Addr) (vs : List Value) (nl : Nat) (v1 v2 : Option Value) k1 k2 k3, oSt.data = .cell v1 → oTh.data = .cell v2 → oLe.data = .cell (some (.ref l)) → oSi.data = .cell (some (.int side ts)) → IntsAre vs T → 1 ≤ T.length → T.length + (k + 1) = 5 → Apt l (L + 1 + 1 + 1 + 1) → Apt l (L + 1 + 1 + 1) → Apt l (L + 1 + 1) → Apt l (L + 1) → Apt l I → AllLt l R → @LT.lt Nat _ (L + 1 + 1 + 1 + 1) I → (∀ p ∈ R, @Ne Nat p.1 I) → (ta, tupObj #[.int (Th.nm th) k1, .int th.l k2, .int th.r k3]) ∈ R →
      ∀ o' h tk, Fr h₀ env.locals h m0 → News h₀ env.locals h ((I, o') :: (l, listOf (List.toArray vs) nl) :: (L + 1 + 1 + 1 + 1, oSt) :: (L + 1 + 1 + 1, oTh) :: (L + 1 + 1, oLe) :: (L + 1, oSi) :: R) →
      wpAny (model PP w) A (assign target env (.ref ta)) (fun _ s₂ => wpAny (model PP w) A (execs body env) (UnrPostW h₀ env.locals { s with heap := h, toks := tk } [(I, o')] (fun m' n' => SubL [(ls, listOf (rs.map fun x => Value.ref x.1.1).toArray n)] n' ∧ TollJ R L I side ts m0 k (tollStep side T th) m' n') Q) E s₂) E { s with heap := h, toks := tk })
    (fin : ∀ T (oSt oTh oLe oSi : Obj) (l : Addr) (vs : List Value) (nl : Nat) (v1 v2 : Option Value), T = tolls side (rs.map fun x => x.1.2) → oSt.data = .cell v1 → oTh.data = .cell v2 → oLe.data = .cell (some (.ref l)) → oSi.data = .cell (some (.int side ts)) → IntsAre vs T → 1 ≤ T.length → AllLt l R → ∀ h tk, Fr h₀ env.locals h m0 → News h₀ env.locals h ((l, listOf (List.toArray vs) nl) :: (L + 1 + 1 + 1 + 1, oSt) :: (L + 1 + 1 + 1, oTh) :: (L + 1 + 1, oLe) :: (L + 1, oSi) :: R) → Q .next { s with heap := h, toks := tk }) :
    wpAny (model PP w) A (pyIter (.ref ls)) (fun it s₂ => TurnsAt PP w A h₀ env target body Q E it s₂) E s := by
  refine iter_listTurns (vs := rs.map fun x => Value.ref x.1.1) hh F N (lo := listOf (rs.map fun x => Value.ref x.1.1).toArray n) (by simp [h1]) rfl rfl fun I hI => ?_
  rw [List.map_map]
  have il : @LT.lt Nat _ l I := hI (l, _) (.head _)
  refine items_indN (fun x : {x : Addr × Th // ThAt R x.1 x.2} => Itm.val (Value.ref x.1.1)) (fun T x => tollStep side T x.1.2) (TollJ R L I side ts m0) (fun x k T m news hJ v h tk hv F' => ?_) rs [0] m0 _ ?_ ?_
  · obtain ⟨oSt', oTh', oLe', oSi', l', vs, nl', v1', v2', d1', d2', d3', d4', hTI, hT1, hT2, a1', a2', a3', a4', a5', aR'⟩ := hJ
    obtain ⟨⟨ta, th⟩, ⟨k1, k2, k3, mth⟩⟩ := x
    have hv' : v = .ref ta := hv
    subst hv'
    exact AllObj.cons fun o' _ => AllObj.nil fun N2 => step I ta th k T oSt' oTh' oLe' oSi' l' vs nl' v1' v2' k1 k2 k3 d1' d2' d3' d4' hTI hT1 hT2 a1' a2' a3' a4' a5' aR' (hI _ (.tail _ (.head _))) (fun p hp => Nat.ne_of_lt (hI p (.tail _ (.tail _ (.tail _ (.tail _ (.tail _ hp))))))) mth o' h tk F' (by simpa using N2)
  · exact ⟨oSt, oTh, oLe, oSi, l, [.int 0 t0], nl, v1, v2, d1, d2, d3, d4, .cons _ _ .nil, Nat.le_refl _, by rw [h4]; rfl, a1, a2, a3, a4, ⟨Nat.ne_of_lt il⟩, aR⟩
  · intro m news hJ h tk F' N'
    obtain ⟨oSt', oTh', oLe', oSi', l', vs, nl', v1', v2', d1', d2', d3', d4', hTI, hT1, hT2, a1', a2', a3', a4', a5', aR'⟩ := hJ
    exact fin _ oSt' oTh' oLe' oSi' l' vs nl' v1' v2' (by rw [tolls, List.foldl_map]) d1' d2' d3' d4' hTI hT1 aR' h tk F' N'
theorem unr_end1 {h₀ h' : Heap} {L I : Addr} {o' : Obj} {all news' : Led} {rest : (Str → Option Value) → Led → Prop} {s₁ : Shared} {tk : Nat} {m' : Str → Option Value} (F : Fr h₀ L h' m') (N : News h₀ L h' all) (it : (I, o') ∈ all) (sub : ∀ p ∈ news', p ∈ all) (off : ∀ p ∈ news', @Ne Nat p.1 I) (r : rest m' news') :
    UnrEndW h₀ L s₁ [(I, o')] rest { s₁ with heap := h', toks := tk } :=
  ⟨h', tk, m', news', rfl, F, news_sub N (fun p hp => by
    rcases List.mem_cons.mp hp with rfl | hp
    · exact it
    · exact sub p hp), fun p hp q hq => by rw [List.mem_singleton.mp hq]; exact off p hp, r⟩
theorem toll_end {g h' : Heap} {L I l2 ls : Addr} {o' oSt oTh oLe oSi : Obj} {all R : Led} {ws : List Value} {side : Int} {ts : Tok} {m m0 : Str → Option Value} {k n : Nat} {T : List Int} {th : Th} {s₁ : Shared} {tk : Nat} {rs : List Value} {v1 v2 : Option Value}
    (F : Fr g L h' m) (N : News g L h' all) (hI : IntsAre ws ([((List.range T.length).map (tollStay side th T)).getD (Int.toNat 0) 0] ++ (List.range (T.length - 1)).map (tollMid side th T) ++ [T.getD (T.length - 1) 0]))
    (h1 : (ls, listOf rs.toArray n) ∈ R) (hT1 : 1 ≤ T.length) (hT : T.length + (k + 1) = 5) (i4 : L + 1 + 1 + 1 + 1 < I) (hRI : ∀ p ∈ R, @Ne Nat p.1 I)
    (it : (I, o') ∈ all) (q1 : (l2, listOf ws.toArray 0) ∈ all) (q2 : (L + 1 + 1 + 1 + 1, oSt) ∈ all) (q3 : (L + 1 + 1 + 1, oTh) ∈ all) (q4 : (L + 1 + 1, oLe) ∈ all) (q5 : (L + 1, oSi) ∈ all) (qR : ∀ p ∈ R, p ∈ all)
    (d1 : oSt.data = .cell v1) (d2 : oTh.data = .cell v2) (d3 : oLe.data = .cell (some (.ref l2))) (d4 : oSi.data = .cell (some (.int side ts)))
    (a1 : @Ne Nat l2 (L + 1 + 1 + 1 + 1)) (a2 : @Ne Nat l2 (L + 1 + 1 + 1)) (a3 : @Ne Nat l2 (L + 1 + 1)) (a4 : @Ne Nat l2 (L + 1)) (a5 : @Ne Nat l2 I) (aR : AllLt l2 R) (em : m = m0) :
    UnrEndW g L s₁ [(I, o')] (fun m' n' => SubL [(ls, listOf rs.toArray n)] n' ∧ TollJ R L I side ts m0 k (tollStep side T th) m' n') { s₁ with heap := h', toks := tk } := by
  subst em
  refine unr_end1 (news' := (l2, listOf ws.toArray 0) :: (L + 1 + 1 + 1 + 1, oSt) :: (L + 1 + 1 + 1, oTh) :: (L + 1 + 1, oLe) :: (L + 1, oSi) :: R) F N it ?_ ?_ ⟨⟨?_, trivial⟩, ⟨oSt, oTh, oLe, oSi, l2, ws, 0, v1, v2, d1, d2, d3, d4, ?_, ?_, ?_, ⟨a1⟩, ⟨a2⟩, ⟨a3⟩, ⟨a4⟩, ⟨a5⟩, aR⟩⟩
  · intro p hp
    simp only [List.mem_cons] at hp
    rcases hp with rfl | rfl | rfl | rfl | rfl | hp
    · exact q1
    · exact q2
    · exact q3
    · exact q4
    · exact q5
    · exact qR p hp
  · intro p hp
    simp only [List.mem_cons] at hp
    have i4' : @LT.lt Nat _ (L + 1 + 1 + 1 + 1) I := i4
    rcases hp with rfl | rfl | rfl | rfl | rfl | hp
    · exact a5
    · dsimp only; omega
    · dsimp only; omega
    · dsimp only; omega
    · dsimp only; omega
    · exact hRI p hp
  · simp [h1]
  · have e : ((List.range T.length).map (tollStay side th T)).getD (Int.toNat 0) 0 = tollStay side th T 0 := range_map_getD _ hT1
    rw [e] at hI
    exact hI
  · simp [tollStep]
  · simp [tollStep]; omega
theorem allLt_sub {D : Nat} {N R : Led} (h : ∀ p ∈ N, @LT.lt Nat _ p.1 D) (s : ∀ p ∈ R, p ∈ N) : AllLt D R := allLt_of fun p hp => h p (s p hp)
theorem tl_b0 {n k : Nat} (h : n + (k + 1) = 5) : n < 5 := Nat.lt_of_lt_of_eq (Nat.lt_add_of_pos_right (Nat.succ_pos k)) h
theorem tl_b1 {n : Nat} (h : n < 5) : (n : Int) ≤ 16384 := by omega
theorem tl_b2 {n : Nat} (h : n < 5) : n < 2 ^ 62 := Nat.lt_of_lt_of_le h (by decide)
theorem tl_s0 {n : Nat} (h : n < 5) : Builtin.Range.small 0 (n : Int) 1 = true := small_one (by decide) (by decide) (by omega) (by omega)
theorem tl_s1 {n : Nat} (h : n < 5) : Builtin.Range.small 1 (n : Int) 1 = true := small_one (by decide) (by decide) (by omega) (by omega)
theorem tl_z0 {n : Nat} (h : n < 5) : ((n : Int) - 0).toNat ≤ sizeLine := by rw [sizeLine_eq]; omega
theorem tl_z1 {n : Nat} (h : n < 5) : ((n : Int) - 1).toNat ≤ sizeLine := by rw [sizeLine_eq]; omega
theorem tl_i0 {n i : Nat} (h : i < ((n : Int) - 0).toNat) : i < n := by rwa [Int.sub_zero, Int.toNat_natCast] at h
theorem tl_i1 {n i : Nat} (h : i < ((n : Int) - 1).toNat) : i + 1 < n := by omega
theorem tl_a0 (i : Nat) : (0 : Int) ≤ 0 + (i : Int) := by omega
theorem tl_a1 (i : Nat) : (0 + (i : Int)).toNat = i := by rw [Int.zero_add, Int.toNat_natCast]
theorem tl_a2 {i n : Nat} (h : i < n) (hn : n < 5) : 0 + (i : Int) < 2 ^ 63 := by omega
theorem tl_c0 (i : Nat) : (0 : Int) ≤ 1 + (i : Int) := by omega
theorem tl_c1 (i : Nat) : (1 + (i : Int)).toNat = i + 1 := by omega
theorem tl_c2 {i n : Nat} (h : i + 1 < n) (hn : n < 5) : 1 + (i : Int) < 2 ^ 63 := by omega
theorem tl_d0 (i : Nat) : (0 : Int) ≤ 1 + (i : Int) - 1 := by omega
theorem tl_d1 (i : Nat) : (1 + (i : Int) - 1).toNat = i := by omega
theorem tl_d2 {i n : Nat} (h : i + 1 < n) (hn : n < 5) : 1 + (i : Int) - 1 < 2 ^ 63 := by omega
theorem tl_m (n : Nat) : ((n : Int) - 1).toNat = n - 1 := by omega
theorem tl_len (f : Nat → Int) {n i : Nat} (h : i < n) : i < ((List.range n).map f).length := by rwa [List.length_map, List.length_range]
theorem tl_f0 (n : Int) : 0 ≤ 1 + Int.fmod n 2 := by have := fmod2 n; omega
theorem tl_f3 (n : Int) : 1 + Int.fmod n 2 < 2 ^ 63 := by have := fmod2 n; omega
theorem tl_q {n : Nat} (h : n < 5) (h1 : 1 ≤ n) : 0 + 1 + (n - 1) ≤ sizeLine ∧ 0 + 1 + (n - 1) + (0 + 1) ≤ sizeLine := by rw [sizeLine_eq]; omega
theorem tolls_con {w : World} {R : Led} {ls : Addr} {rs : List {x : Addr × Th // ThAt R x.1 x.2}} {n : Nat} {side : Int} {ts : Tok} (hs : 0 ≤ side ∧ side < 2)
  (h1 : (ls, listOf (rs.map fun x => Value.ref x.1.1).toArray n) ∈ R) (h4 : rs.length = 4) :
  Con w 2 211 [.ref ls, .int side ts] [] R (PInts (tolls side (rs.map fun x => x.1.2))) := by
  (k_with "left 10" => skip)
  (k_with "omega" => (fail_if_success k_extra "left 11"); (first | with_reducible (first | assumption | exact neG1 | exact neG2 | exact neG3 | exact neL1 | exact neL2 | exact neL3 | exact leL1 | exact leL2 | exact leL3 | exact leL4 | exact And.left (by assumption) | exact And.right (by assumption) | exact Nat.ne_of_lt (by assumption) | exact Nat.ne_of_gt (by assumption)) | exact b63 (by with_reducible assumption) rfl))
  (k_with "k_lt" => (fail_if_success k_extra "left 11"); (skip))
  (k_with "my isl" => (fail_if_success k_extra "left 11"); (exact News.isList (by k_asm) (by k_mem)))
  (k_with "my iar" => (fail_if_success k_extra "left 11"); (first | assumption | exact IntsAre.cons _ _ .nil))
  (k_with "binaryOp Add ref ref" => (fail_if_success k_extra "left 11"); ((k_here; (with_reducible show wpAny _ _ (binaryOp _ (Value.ref _) (Value.ref _)) _ _ _); k_dflt (refine' kmk_add_ints ?w₉F ?w₉N ?w₉a ?w₉b ?w₉i ?w₉j ?_ ?w₉z; (case w₉F => k_asm); (case w₉N => k_asm); (case w₉a => walk_at "my isl"); (case w₉b => walk_at "my isl"); (case w₉i => walk_at "my iar"); (case w₉j => walk_at "my iar"); (case w₉z => rw [sizeLine_eq]; (try simp only [List.length_append, List.length_map, List.length_range, List.length_cons, List.length_nil]); omega)); intro D₉ ws₉ h₉ F₉ N₉ l1₉ hI₉; (try k_lt l1₉); (try k_sweep))))
  (k_with "call ref" => (fail_if_success k_extra "left 11"); ((k_here; k_dflt (refine' con_use0 PInt.el iadd_con ?w₉k1 ?w₉k2 ?w₉k3 ?w₉k4 ?w₉k5 ?w₉kK ?w₉kI ?w₉kd ?w₉ku ?_); (case w₉k1 => k_asm); (case w₉k2 => k_asm); (case w₉k3 => k_asm); (case w₉k4 => k_asm); (case w₉k5 => k_asm); (case w₉kK => first | exact rfl | assumption); (case w₉kI => first | (intro _ hp₉; replace hp₉ := hsub _ hp₉; (repeat' first | exact hp₉ | refine List.Mem.tail _ ?_); done) | walk_at "my sub"); (case w₉kd => (first | omega | ktr_room)); (case w₉ku => (first | omega | ktr_units)); k_whole; intro t₉ h₉ tk₉ F₉ N₉; (try dsimp only); (try k_sweep))))
  (k_with "my ints" => (fail_if_success k_extra "left 11"); ((k_here; (with_reducible show wpAny _ _ (subscriptTail _ _ (Value.ref _) (Value.int _ _)) _ _ _); k_dflt (refine' item_ints ?w₉N ?w₉m ?w₉i ?w₉a ?w₉b ?w₉c ?_; (case w₉N => k_asm); (case w₉m => k_mem); (case w₉i => assumption); (case w₉b => first | assumption | exact tl_len _ (by assumption) | ((try simp only [List.length_map, List.length_range]); omega)); (case w₉a => first | assumption | omega); (case w₉c => first | assumption | omega)); intro t₉)))
  (k_with "subscriptTail Name Name ref int" => (fail_if_success k_extra "left 11"); (walk_at "my ints"))
  (k_with "subscriptTail Name Constant ref int" => (fail_if_success k_extra "left 11"); (walk_at "my ints"))
  (k_with "subscriptTail Name BinOp ref int" => (fail_if_success k_extra "left 11"); (first | walk_at "my ints" | (k_here; (with_reducible show wpAny _ _ (subscriptTail _ _ (Value.ref _) (Value.int _ _)) _ _ _); k_dflt (refine' itemT_sym ?w₉N ?w₉m ?w₉a ?w₉b (sel_at _ _ _ _ _) ?_; (case w₉N => k_asm); (case w₉m => k_mem); (case w₉a => exact tl_f0 _); (case w₉b => exact tl_f3 _)))))
  (k_with "subscriptTail Name UnaryOp ref int" => (fail_if_success k_extra "left 11"); ((k_here; (with_reducible show wpAny _ _ (subscriptTail _ _ (Value.ref _) (Value.int _ _)) _ _ _); k_dflt (refine' item_last ?w₉N ?w₉m ?w₉i ?w₉a ?w₉b ?_; (case w₉N => k_asm); (case w₉m => k_mem); (case w₉i => assumption); (case w₉a => omega); (case w₉b => omega)); intro t₉)))
  (k_with "call builtin:len" => (fail_if_success k_extra "left 11"); ((k_here; (with_reducible show wpAny _ _ (call (Value.builtin "len") [Value.ref _]) _ _ _); k_dflt (refine' kun_lenL ?w₉k1 ?w₉k2 ?w₉k3 ?_; (case w₉k1 => exact News.isList (by k_asm) (by k_mem)); (case w₉k2 => exact len_is (by assumption)); (case w₉k3 => omega); k_whole))))
  (k_with "CompSrc" => (fail_if_success k_extra "left 11"); (fail "stop"))
  (k_with "exec Assign cons ListComp" => (fail_if_success k_extra "left 11"); (refine wpAny_Assign_Name ?_))
  (k_with "eval ListComp" => (fail_if_success k_extra "left 11"); ((k_here; k_dflt (refine LCg.ListComp_U (F₀ := by k_asm) (by with_unfolding_all rfl) (by decide) (by rfl) (by decide) (by rfl) ?_))))
  refine con_gen (fun P' hPP => ?_)
  refine' con_cells (binds := [(_, _), (_, _)]) ?ho ?hfd ?hcd ?hb ?hl ?c1 ?c2 ?c3 ?c4 ?hh; (case ho => k_dflt k_is); (case hfd => refine' fd_lit ?x1 ?x2 ?x3; (case x1 => (conv => lhs; whnf)); (case x2 => (conv => lhs; whnf)); (case x3 => (conv => lhs; whnf))); (case hcd => k_dflt k_is); (case hb => exact rfl); (case hl => exact rfl); (case c1 => exact rfl); (case c2 => exact rfl); (case c3 => exact rfl); (case c4 => decide +kernel)
  intro loose mean mg mb dp un gd outer A₀ base g L h₁ s₀ tk cells Q₀ hq₀ hn₀ B F X N Y l1 T hd hu
  (try simp only [List.cons_append, List.nil_append, List.append_nil] at l1)
  have l0 := l1
  (replace l1 := allLt_of l1)
  (try simp only [AllLt, and_true] at l1)
  (try dsimp only at Y)
  k_cells Y
  (try simp only [List.cons_append, List.nil_append, List.append_nil] at N)
  (try dsimp only [List.reverse, List.reverseAux] at F)
  (try dsimp only)
  (try k_fold)
  (first | (refine letAE ?_; intro A9 E9) | skip)
  repeat' (first | (k_unfold; (try dsimp only)) | (with_reducible refine hideQ ?_; intro Q9 hQ9) | (with_reducible refine hideQ2 ?_; intro Q9 hQ9) | (with_reducible refine hQ9 _ _ ?_; try clear hQ9 Q9) | walk1 | (dsimp only; walk1) | (dsimp only; k_unfold; (try dsimp only)) | fail "no step")
  (try dsimp only)
  refine toll_iter (side := side) rfl (by k_asm) (by k_asm) h1 h4 (by k_asm) (by k_asm) (by k_asm) (by k_asm) ⟨?a1⟩ ⟨?a2⟩ ⟨?a3⟩ ⟨?a4⟩ ?aR ?step ?fin
  (case a1 => first | exact ne_m2 (by assumption) (by first | k_mem | fail "k_mem") | omega)
  (case a2 => first | exact ne_m2 (by assumption) (by first | k_mem | fail "k_mem") | omega)
  (case a3 => first | exact ne_m2 (by assumption) (by first | k_mem | fail "k_mem") | omega)
  (case a4 => first | exact ne_m2 (by assumption) (by first | k_mem | fail "k_mem") | omega)
  (case aR => exact allLt_sub (by assumption) (by (first | walk_at "my suf" | fail "my suf")))
  (case step =>
    intro I ta th k T oSt oTh oLe oSi l vs nl v1 v2 k1 k2 k3 d1 d2 d3 d4 hTI hT1 hT2 a1 a2 a3 a4 a5 aR i4 hRI mth o' h tk2 F2 N2
    have hT5 := tl_b0 hT2
    have hT6 := tl_b1 hT5
    have hT7 := tl_b2 hT5
    have hTm := tl_m T.length
    have hTq := (tl_q hT5 hT1).1
    have hTr := (tl_q hT5 hT1).2
    (try dsimp only)
    repeat' (first | (k_unfold; (try dsimp only)) | (with_reducible refine hideQ ?_; intro Q9 hQ9) | (with_reducible refine hideQ2 ?_; intro Q9 hQ9) | (with_reducible refine hQ9 _ _ ?_; try clear hQ9 Q9) | ((fail_if_success (with_reducible show LCg.CompSrc _ _ _ _ _ _ _ _ _ _ _ _ _ _)); walk1) | ((fail_if_success (with_reducible show LCg.CompSrc _ _ _ _ _ _ _ _ _ _ _ _ _ _)); dsimp only; walk1) | (dsimp only; k_unfold; (try dsimp only)) | fail "no step")
    refine LCg.CompSrc.range (by rfl) (by k_asm) (by k_asm) (by assumption) (tl_s0 hT5) (rangeSize_nat _ _) (tl_z0 hT5) (fun g' => ?_)
    refine comp_ind (J := fun i ys nw => nw = _ ∧ IntsAre ys ((List.range i).map (tollStay side th T))) ?st1 ?fn1 _ 0 [] _ (Nat.zero_add _) ⟨rfl, .nil⟩
    (case st1 =>
      rintro i ys nw hi ⟨e, hys⟩ v I2 oI C oC D m2 h2 tk3 E2 ⟨tv, hv⟩ hC hx F3 N3 off
      subst e hv
      have e1 := tl_a1 i
      have hi1 := tl_i0 hi
      have q0 := tl_a0 i
      have q1 : (0 + (i : Int)).toNat < T.length := by rw [e1]; exact hi1
      have q2 := tl_a2 hi1 hT5
      (try dsimp only)
      repeat' (first | (k_unfold; (try dsimp only)) | (with_reducible refine hideQ ?_; intro Q9 hQ9) | (with_reducible refine hideQ2 ?_; intro Q9 hQ9) | (with_reducible refine hQ9 _ _ ?_; try clear hQ9 Q9) | ((fail_if_success (with_reducible show LCg.CompSrc _ _ _ _ _ _ _ _ _ _ _ _ _ _)); walk1) | ((fail_if_success (with_reducible show LCg.CompSrc _ _ _ _ _ _ _ _ _ _ _ _ _ _)); dsimp only; walk1) | (dsimp only; k_unfold; (try dsimp only)) | fail "no step")
      rw [List.range_succ, List.map_append]
      refine ints_snoc hys ?_
      rw [e1]
      try rw [getD_sel]
      simp [tollStay])
    (case fn1 =>
      rintro ys nw ⟨e, hys⟩
      subst e
      have hys' : IntsAre ys ((List.range T.length).map (tollStay side th T)) := by simpa using hys
      repeat' (first | (k_unfold; (try dsimp only)) | (with_reducible refine hideQ ?_; intro Q9 hQ9) | (with_reducible refine hideQ2 ?_; intro Q9 hQ9) | (with_reducible refine hQ9 _ _ ?_; try clear hQ9 Q9) | ((fail_if_success (with_reducible show LCg.CompSrc _ _ _ _ _ _ _ _ _ _ _ _ _ _)); walk1) | ((fail_if_success (with_reducible show LCg.CompSrc _ _ _ _ _ _ _ _ _ _ _ _ _ _)); dsimp only; walk1) | (dsimp only; k_unfold; (try dsimp only)) | fail "no step")
      refine LCg.CompSrc.range (by rfl) (by k_asm) (by k_asm) (by assumption) (tl_s1 hT5) (rangeSize_nat _ _) (tl_z1 hT5) (fun g' => ?_)
      refine comp_ind (J := fun i ys nw => nw = _ ∧ IntsAre ys ((List.range i).map (tollMid side th T))) ?st2 ?fn2 _ 0 [] _ (Nat.zero_add _) ⟨rfl, .nil⟩
      (case st2 =>
        rintro i ys2 nw hi ⟨e, hys2⟩ v I2 oI C oC D m2 h2 tk3 E2 ⟨tv, hv⟩ hC hx F3 N3 off
        subst e hv
        have e1 := tl_d1 i
        have e2 := tl_c1 i
        have hi1 := tl_i1 hi
        have q0 := tl_c0 i
        have q1 : (1 + (i : Int)).toNat < T.length := by rw [e2]; exact hi1
        have q2 := tl_c2 hi1 hT5
        have q3 := tl_d0 i
        have q4 : (1 + (i : Int) - 1).toNat < T.length := by rw [e1]; exact Nat.lt_of_succ_lt hi1
        have q5 := tl_d2 hi1 hT5
        (try dsimp only)
        repeat' (first | (k_unfold; (try dsimp only)) | (with_reducible refine hideQ ?_; intro Q9 hQ9) | (with_reducible refine hideQ2 ?_; intro Q9 hQ9) | (with_reducible refine hQ9 _ _ ?_; try clear hQ9 Q9) | ((fail_if_success (with_reducible show LCg.CompSrc _ _ _ _ _ _ _ _ _ _ _ _ _ _)); walk1) | ((fail_if_success (with_reducible show LCg.CompSrc _ _ _ _ _ _ _ _ _ _ _ _ _ _)); dsimp only; walk1) | (dsimp only; k_unfold; (try dsimp only)) | fail "no step")
        rw [List.range_succ, List.map_append]
        refine ints_snoc hys2 ?_
        rw [e1, e2, range_map_getD _ hi1]
        rfl)
      (case fn2 =>
        rintro ys2 nw ⟨e, hys2⟩
        subst e
        have hys2' : IntsAre ys2 ((List.range (T.length - 1)).map (tollMid side th T)) := by
          rw [hTm] at hys2; exact hys2
        repeat' (first | (k_unfold; (try dsimp only)) | (with_reducible refine hideQ ?_; intro Q9 hQ9) | (with_reducible refine hideQ2 ?_; intro Q9 hQ9) | (with_reducible refine hQ9 _ _ ?_; try clear hQ9 Q9) | ((fail_if_success (with_reducible show LCg.CompSrc _ _ _ _ _ _ _ _ _ _ _ _ _ _)); walk1) | ((fail_if_success (with_reducible show LCg.CompSrc _ _ _ _ _ _ _ _ _ _ _ _ _ _)); dsimp only; walk1) | (dsimp only; k_unfold; (try dsimp only)) | fail "no step")
        refine toll_end (o' := o') (by k_asm) (by k_asm) (by assumption) h1 hT1 hT2 i4 hRI (by first | k_mem | fail "k_mem") (by first | k_mem | fail "k_mem") (by first | k_mem | fail "k_mem") (by first | k_mem | fail "k_mem") (by first | k_mem | fail "k_mem") (by first | k_mem | fail "k_mem") ?qR (by assumption) (by assumption) (by assumption) (by assumption) ?b1 ?b2 ?b3 ?b4 ?b5 ?aR rfl
        (case qR => (first | walk_at "my suf" | fail "my suf"))
        (case aR => exact allLt_sub (by assumption) (by (first | walk_at "my suf" | fail "my suf")))
        (case b1 => first | exact ne_m2 (by assumption) (by first | k_mem | fail "k_mem") | omega)
        (case b2 => first | exact ne_m2 (by assumption) (by first | k_mem | fail "k_mem") | omega)
        (case b3 => first | exact ne_m2 (by assumption) (by first | k_mem | fail "k_mem") | omega)
        (case b4 => first | exact ne_m2 (by assumption) (by first | k_mem | fail "k_mem") | omega)
        (case b5 => first | exact ne_m2 (by assumption) (by first | k_mem | fail "k_mem") | omega))))
  (case fin =>
    intro T oSt oTh oLe oSi l vs nl v1 v2 eT d1 d2 d3 d4 hTI hT1 aR h tk2 F2 N2
    rw [eT] at hTI
    (try dsimp only)
    repeat' (first | (k_unfold; (try dsimp only)) | (with_reducible refine hideQ ?_; intro Q9 hQ9) | (with_reducible refine hideQ2 ?_; intro Q9 hQ9) | (with_reducible refine hQ9 _ _ ?_; try clear hQ9 Q9) | walk1 | (dsimp only; walk1) | (dsimp only; k_unfold; (try dsimp only)) | fail "no step")
    exact ret1 hq₀ (l := l) (by k_asm) (by k_asm) (by (first | walk_at "my suf" | fail "my suf")) (.head _) (fun q hq => Nat.ne_of_lt (kst_ltOf aR q hq)) (hPP _ _ (.mk _ _ _ hTI)))

end
section
open PySem.Spec PyProof.Rows.LCg in
inductive EcInv (h₀ : Heap) (L : Addr) (m : Str → Option Value) (s₂ : Shared) (C D e it l : Addr) (vs : List Value) (news : Led) (Jv : Nat → List Value → Prop) : Nat → Shared → Prop
  | mk (i : Nat) (h' : Heap) (tk : Nat) (ys : List Value) (m' : Str → Option Value) (hi : i ≤ vs.length) (hyl : ys.length ≤ i) (hE : ∃ old, IsEnum h' e it i old) (hI : h'.IsListIter it l i) (F : Fr h₀ L h' m) (hn : h'.Ns C m') (N : News h₀ L h' ((D, lst ys) :: news)) (hJ : Jv i ys) :
    EcInv h₀ L m s₂ C D e it l vs news Jv (vs.length + 1 - i) { s₂ with heap := h', toks := tk }
open PySem.Spec PyProof.Rows.LCg in
theorem ec_block {prog : Program} {w : World} {A : Around} {E : Value → Shared → Prop} {h₀ : Heap} {L : Addr} {m : Str → Option Value} {env : Env} {elt iter c : PySem.Expr} {a b : Str} {pa pb tp : Pos} {kk : Nat} {scope : PySem.Scope} {cl : List (Str × Addr)} {pos : Pos} {s₂ : Shared} {e it l : Addr} {lo : Obj} {vs : List Value} {n : Nat} {news : Led} {RR : Value → Addr → Result → Shared → Prop} (Jv : Nat → List Value → Prop)
    (hh : A.handled = none) (hl : (l, lo) ∈ news) (hlc : lo.cls = .type "list") (hld : lo.data = .seq vs.toArray n) (hsz : vs.length ≤ sizeLine)
    (he0 : IsEnum s₂.heap e it 0 .none) (hi0 : s₂.heap.IsListIter it l 0) (hei : e ≠ it)
    (hcell : ∀ y ∈ scope.names, y.2 ≠ .cell) (hkind : scope.kind = .function) (hxa : scope.names.lookup a = some .local) (hxb : scope.names.lookup b = some .local) (hab : ¬ a = b)
    (F : Fr h₀ L s₂.heap m) (N : News h₀ L s₂.heap news) (hLe : L ≠ e) (hLi : L ≠ it) (e0 : h₀.get? e = none) (i0 : h₀.get? it = none) (offe : ∀ p ∈ news, p.1 ≠ e) (offi : ∀ p ∈ news, p.1 ≠ it)
    (J0 : Jv 0 [])
    (turn : ∀ i x ys, vs[i]? = some x → Jv i ys → ∀ t oI oJ C oC D m₂ h tk (E' : Value → Shared → Prop), NsObj oC m₂ → m₂ a = some (.int i t) → m₂ b = some x → Fr h₀ L h m → News h₀ L h ((e, oI) :: (C, oC) :: (D, lst ys) :: (it, oJ) :: news) → Off3 e C D ((it, oJ) :: news) →
      wpAny (model prog w) A (isTrue c (compEnvC scope cl C env) (eval c (compEnvC scope cl C env))) (fun okb s₃ => if okb = true then
        wpAny (model prog w) A (eval elt (compEnvC scope cl C env)) (CompEnd h₀ L m { s₂ with heap := h, toks := tk } e oI C oC D (lst ys) (fun n' => n' = (it, oJ) :: news) (fun y _ => Jv (i + 1) (ys ++ [y]))) E' s₃
        else CompEnd h₀ L m { s₂ with heap := h, toks := tk } e oI C oC D (lst ys) (fun n' => n' = (it, oJ) :: news) (fun _ _ => Jv (i + 1) ys) .none s₃) E' { s₂ with heap := h, toks := tk })
    (hRR : ∀ D C h tk m' ys, Fr h₀ L h m → News h₀ L h ((D, lst ys) :: news) → Off1 D news → h.Ns C m' → h₀.get? C = none → h₀.get? D = none → C ≠ L → D ≠ L → C ≠ D → (∀ p ∈ news, p.1 ≠ C) → Jv vs.length ys → RR (.ref D) C (.ok .next) { s₂ with heap := h, toks := tk }) :
    wpAny (model prog w) A (newList []) (fun acc s₃ => wpAny (model prog w) A (newFunctionEnv scope env.globals cl [] env.qual none .none (some env)) (fun cenv s₄ =>
      codeAny (model prog w) A (.compStart (.ListComp elt [⟨.Tuple [.Name a pa, .Name b pb] kk tp, iter, [c], 0⟩] scope pos) 0 (.ref e) acc { cenv with scope := relabel scope env }) (RR acc cenv.locals) s₄) E s₃) E s₂ := by
  refine wpAny_newObj_type (wpAny_newFunctionEnv hcell (by intro y hy; simp at hy) (fun h₁ hns₁ hsb₁ => ?_) hkind)
  dsimp only at hns₁ hsb₁ ⊢
  generalize hH2 : s₂.heap.push { cls := .type "list", dict := none, data := .seq ([] : List Value).toArray } = H2 at hns₁ hsb₁ ⊢
  generalize hCg : H2.objs.size = C at hns₁ hsb₁ ⊢
  generalize hDg : s₂.heap.objs.size = D
  have hCD : C = D + 1 := by rw [← hCg, ← hDg, ← hH2, Heap.size_push]
  have low : ∀ q o, s₂.heap.get? q = some o → @LT.lt Nat _ q D := fun q o z => hDg ▸ Heap.lt_size z
  have old : ∀ q o, s₂.heap.get? q = some o → h₁.get? q = some o := fun q o z => hsb₁.extBut q o (by have := low q o z; rw [hCD]; exact Nat.ne_of_lt (Nat.lt_succ_of_lt this)) (Heap.get?_push_of_some _ (hH2 ▸ Heap.get?_push_of_some _ z))
  have fresh₀ : ∀ q, @LE.le Nat _ D q → h₀.get? q = none := fun q hq => by
    cases z : h₀.get? q with
    | none => rfl
    | some o => exact absurd (low q o (F.keep q o z)) (Nat.not_lt.mpr hq)
  have hacc : h₁.get? D = some (lst []) := hsb₁.extBut _ _ (by rw [hCD]; exact Nat.ne_of_lt (Nat.lt_succ_self _)) (by rw [← hDg]; exact Heap.get?_push_of_some _ (hH2 ▸ Heap.get?_push_size _ rfl))
  have hD0 := fresh₀ D (Nat.le_refl _)
  have hC0 := fresh₀ C (by rw [hCD]; exact Nat.le_succ _)
  have elt' : @LT.lt Nat _ e D := low _ _ he0
  have ilt : @LT.lt Nat _ it D := by obtain ⟨o, z, _⟩ := hi0; exact low _ _ z
  have Llt : @LT.lt Nat _ L D := hDg ▸ F.ns.lt
  have nlt : ∀ p ∈ news, @LT.lt Nat _ p.1 D := fun p hp => low _ _ (N p hp).1
  have ne1 : ∀ q : Nat, q < D → q ≠ C ∧ q ≠ D := fun q hq => by
    have : @Eq Nat C (D + 1) := hCD
    exact ⟨fun z => by omega, fun z => by omega⟩
  have cd : @Ne Nat C D := by have : @Eq Nat C (D + 1) := hCD; exact fun z => by omega
  have W := WalksT.enumerate (prog := prog) (w := w) hh e it l hei (offe _ hl) (offi _ hl) vs.toArray
  have wl : ∀ {h : Heap}, News h₀ L h news → h.IsList l vs.toArray := fun {h} NN => ⟨lo, (NN _ hl).1, hlc, n, hld⟩
  have i1 : h₁.IsListIter it l 0 := by
    obtain ⟨o, z, r⟩ := hi0
    exact ⟨o, old _ _ z, r⟩
  have st0 : (∃ o, IsEnum h₁ e it ((0 : Nat) : Int) o) ∧ h₁.IsListIter it l 0 ∧ h₁.IsList l vs.toArray := ⟨⟨_, old _ _ he0⟩, i1, wl fun p hp => ⟨old _ _ (N p hp).1, (N p hp).2⟩⟩
  have lp : ∀ tkz : Nat, codeAny (model prog w) A (.compLoop (.ListComp elt [⟨.Tuple [.Name a pa, .Name b pb] kk tp, iter, [c], 0⟩] scope pos) 0 (.ref e) (.ref D) (compEnvC scope cl C env)) (RR (.ref D) C) { s₂ with heap := h₁, toks := tkz } := by
    intro tkz
    refine kct_loop
        (EcInv h₀ L m s₂ C D e it l vs news Jv) ?_ (vs.length + 1)
        (.mk 0 h₁ _ [] _ (Nat.zero_le _) (Nat.le_refl _) ⟨_, old _ _ he0⟩ i1 (F.keeps old) hns₁ ?_ J0)
    · rintro k s' ⟨i, h', tk, ys, m', hi, hyl, hE, hI, F', hn', N', hJ⟩
      have Nn : News h₀ L h' news := fun p hp => N' p (.tail _ hp)
      by_cases hlt : i < vs.length
      · refine W.item i _ _ _ (by simpa using hlt) ⟨hE, hI, wl Nn⟩ fun T vals h₂ tk₂ hP hTs hT hM hk₂ => ?_
        obtain ⟨t, x, hx, rfl⟩ := hP
        refine W.go _ _ _ i T _ _ _ hM fun h₃ hst hk₃ => ?_
        have hTw := W.apart i T _ hM
        have up₃ : ∀ q o, q ≠ e → q ≠ it → h'.get? q = some o → h₃.get? q = some o := fun q o z1 z2 z => hk₃ q o (by simp [z1, z2]) (hk₂ q o (by simp [z1, z2]) z)
        have hT3 : h₃.IsTuple T #[.int i t, x] := by
          obtain ⟨o, z, r⟩ := hT
          exact ⟨o, hk₃ _ _ hTw z, r⟩
        refine kcp_assign (env := compEnvC scope cl C env) hh hT3 (lookup_relabel_local hxa) (lookup_relabel_local hxb) (by simp [compEnvC, relabel, hkind]) (hn'.at' fun o z => up₃ _ o (Ne.symm (ne1 e elt').1) (Ne.symm (ne1 it ilt).1) z) fun h₄ tk₄ hn₄ hs₄ => ?_
        have up : ∀ q o, q ≠ e → q ≠ it → q ≠ C → h'.get? q = some o → h₄.get? q = some o := fun q o z1 z2 z3 z => hs₄ q o z3 (up₃ q o z1 z2 z)
        refine hide_goal fun X9 hX9 => ?_
        obtain ⟨⟨old', hE3⟩, ⟨oJ, hJ3, hJc, hJd⟩, _⟩ := hst
        have hE4 : IsEnum h₄ e it ((i + 1 : Nat) : Int) old' := hs₄ _ _ (ne1 e elt').1 hE3
        have hJ4 : h₄.get? it = some oJ := hs₄ _ _ (ne1 it ilt).1 hJ3
        obtain ⟨oI, heI, hoI⟩ : ∃ oI : Obj, h₄.get? e = some oI ∧ ∀ h : Heap, h.get? e = some oI → ∃ old, IsEnum h e it ((i + 1 : Nat) : Int) old := ⟨_, hE4, fun _ z => ⟨_, z⟩⟩
        obtain ⟨oC, heC, hoC⟩ := ns_obj hn₄
        refine hX9 ?_
        clear hX9 X9
        have F₄ : Fr h₀ L h₄ m := ⟨F'.ns.at' fun o z => up _ o hLe hLi (ne1 L Llt).1 z, fun q o z => up q o (fun y => by rw [y, e0] at z; cases z) (fun y => by rw [y, i0] at z; cases z) (fun y => by rw [y, hC0] at z; cases z) (F'.keep q o z), F'.above⟩
        have N₄ : News h₀ L h₄ ((e, oI) :: (C, oC) :: (D, lst ys) :: (it, oJ) :: news) := fun q hq => by
          simp only [List.mem_cons] at hq
          rcases hq with rfl | rfl | rfl | rfl | hq
          · exact ⟨heI, Ne.symm hLe, e0⟩
          · exact ⟨heC, Ne.symm (ne1 L Llt).1, hC0⟩
          · exact ⟨up _ _ (Ne.symm (ne1 e elt').2) (Ne.symm (ne1 it ilt).2) (Ne.symm cd) (N' _ (.head _)).1, (N' _ (.head _)).2⟩
          · exact ⟨hJ4, Ne.symm hLi, i0⟩
          · exact ⟨up _ _ (offe q hq) (offi q hq) (ne1 _ (nlt q hq)).1 (Nn q hq).1, (Nn q hq).2⟩
        have off4 : Off3 e C D ((it, oJ) :: news) := ⟨⟨Ne.symm hei, (ne1 it ilt).1, (ne1 it ilt).2⟩, Off3.of fun p hp => ⟨offe p hp, (ne1 _ (nlt p hp)).1, (ne1 _ (nlt p hp)).2⟩⟩
        have fin : ∀ (ys' : List Value) (h₅ : Heap) (tk₅ : Nat), ys'.length ≤ i + 1 → Fr h₀ L h₅ m → News h₀ L h₅ ((e, oI) :: (C, oC) :: (D, lst ys') :: (it, oJ) :: news) → Jv (i + 1) ys' →
            ∃ q', q' < vs.length + 1 - i ∧ EcInv h₀ L m s₂ C D e it l vs news Jv q' { s₂ with heap := h₅, toks := tk₅ } := by
          intro ys' h₅ tk₅ hl5 F₅ N₅ J₅
          refine ⟨vs.length + 1 - (i + 1), by omega, .mk (i + 1) h₅ tk₅ ys' _ hlt hl5 (hoI h₅ (N₅ _ (.head _)).1) ⟨oJ, (N₅ (it, oJ) (.tail _ (.tail _ (.tail _ (.head _))))).1, hJc, hJd⟩ F₅ (hoC.ns (N₅ (C, oC) (.tail _ (.head _))).1) (fun q hq => ?_) J₅⟩
          rcases List.mem_cons.mp hq with rfl | hq
          · exact N₅ _ (.tail _ (.tail _ (.head _)))
          · exact N₅ _ (.tail _ (.tail _ (.tail _ (.tail _ hq))))
        refine wpAny_mono (turn i x ys (by simpa using hx) hJ t oI oJ C oC D _ h₄ _ _ hoC (by simp [hab]) (by simp) F₄ N₄ off4) (fun okb s₅ h₅ => ?_) fun _ _ z => z
        cases okb with
        | false =>
          simp only [Bool.false_eq_true, if_false] at h₅ ⊢
          obtain ⟨h₅, tk₅, news₅, rfl, F₅, N₅, off₅, rfl, R₅⟩ := h₅
          exact fin ys h₅ tk₅ (Nat.le_succ_of_le hyl) F₅ N₅ R₅
        | true =>
          simp only [if_true] at h₅ ⊢
          refine wpAny_mono h₅ (fun y s₆ h₆ => ?_) fun _ _ z => z
          obtain ⟨h₅, tk₅, news₅, rfl, F₅, N₅, off₅, rfl, R₅⟩ := h₆
          refine append_at (hsz := by show ys.toArray.size ≤ sizeLine; rw [List.size_toArray]; exact Nat.le_trans hyl (Nat.le_trans hi hsz)) (N₅ (D, lst ys) (.tail _ (.tail _ (.head _)))).1 fun h₆ hs₆ hD₆ => ?_
          refine fin (ys ++ [y]) h₆ _ (by rw [List.length_append, List.length_singleton]; exact Nat.succ_le_succ hyl) (F₅.change hs₆ (Ne.symm (ne1 L Llt).2) hD0) (fun q hq => ?_) R₅
          have z := N₅ q
          simp only [List.mem_cons] at hq
          rcases hq with rfl | rfl | rfl | rfl | hq
          · have z := N₅ _ (.head _); exact ⟨hs₆.extBut _ _ (ne1 e elt').2 z.1, z.2⟩
          · have z := N₅ _ (.tail _ (.head _)); exact ⟨hs₆.extBut _ _ cd z.1, z.2⟩
          · exact ⟨hD₆.trans (congrArg some (lst_snoc ys y)), (N₅ _ (.tail _ (.tail _ (.head _)))).2⟩
          · have z := N₅ _ (.tail _ (.tail _ (.tail _ (.head _)))); exact ⟨hs₆.extBut _ _ (ne1 it ilt).2 z.1, z.2⟩
          · have z := N₅ _ (.tail _ (.tail _ (.tail _ (.tail _ hq)))); exact ⟨hs₆.extBut _ _ (ne1 _ (nlt q hq)).2 z.1, z.2⟩
      · obtain rfl : i = vs.length := Nat.le_antisymm hi (Nat.not_lt.mp hlt)
        refine W.done _ _ _ (by simpa using ⟨hE, hI, wl Nn⟩) fun h₂ tk₂ hk₂ => ?_
        have up : ∀ q o, q ≠ e → q ≠ it → h'.get? q = some o → h₂.get? q = some o := fun q o z1 z2 z => hk₂ q o (by simp [z1, z2]) z
        refine hRR D C h₂ tk₂ _ ys ⟨F'.ns.at' fun o z => up _ o hLe hLi z, fun q o z => up q o (fun y => by rw [y, e0] at z; cases z) (fun y => by rw [y, i0] at z; cases z) (F'.keep q o z), F'.above⟩ (fun p hp => ?_) (Off3.one (I := e) (C := C) (Off3.of fun p hp => ⟨offe p hp, (ne1 _ (nlt p hp)).1, (ne1 _ (nlt p hp)).2⟩))
          (hn'.at' fun o z => up _ o (Ne.symm (ne1 e elt').1) (Ne.symm (ne1 it ilt).1) z) hC0 hD0 (Ne.symm (ne1 L Llt).1) (Ne.symm (ne1 L Llt).2) cd (fun p hp => (ne1 _ (nlt p hp)).1) hJ
        rcases List.mem_cons.mp hp with rfl | hp
        · exact ⟨up _ _ (Ne.symm (ne1 e elt').2) (Ne.symm (ne1 it ilt).2) (N' _ (.head _)).1, (N' _ (.head _)).2⟩
        · exact ⟨up _ _ (offe p hp) (offi p hp) (Nn p hp).1, (Nn p hp).2⟩
    · intro p hp
      rcases List.mem_cons.mp hp with rfl | hp
      · exact ⟨hacc, Ne.symm (ne1 L Llt).2, hD0⟩
      · exact ⟨old _ _ (N p hp).1, (N p hp).2⟩
  exact codeAny_compStart_list (lp _) (W.self 0 _ _ _ st0 (lp _))

open PySem.Spec PyProof.Rows.LCg in
inductive EcSrc (prog : Program) (w : World) (A : Around) (h₀ : Heap) (L : Addr) (m : Str → Option Value) (env : Env) (c elt : PySem.Expr) (a b : Str) (scope : PySem.Scope) (cl : List (Str × Addr)) (Q : Value → Shared → Prop) : Value → Shared → Prop
  | mk {s : Shared} (e it l : Addr) (lo : Obj) (vs : List Value) (n : Nat) (news : Led) (Jv : Nat → List Value → Prop) (hh : A.handled = none) (hl : (l, lo) ∈ news) (hlc : lo.cls = .type "list") (hld : lo.data = .seq vs.toArray n) (hsz : vs.length ≤ sizeLine)
    (he : IsEnum s.heap e it 0 .none) (hi : s.heap.IsListIter it l 0) (hei : e ≠ it) (F : Fr h₀ L s.heap m) (N : News h₀ L s.heap news) (hLe : L ≠ e) (hLi : L ≠ it) (e0 : h₀.get? e = none) (i0 : h₀.get? it = none) (oe : ∀ p ∈ news, p.1 ≠ e) (oi : ∀ p ∈ news, p.1 ≠ it) (J0 : Jv 0 [])
    (turn : ∀ i x ys, vs[i]? = some x → Jv i ys → ∀ t oI oJ C oC D m₂ h tk (E' : Value → Shared → Prop), NsObj oC m₂ → m₂ a = some (.int i t) → m₂ b = some x → Fr h₀ L h m → News h₀ L h ((e, oI) :: (C, oC) :: (D, lst ys) :: (it, oJ) :: news) → Off3 e C D ((it, oJ) :: news) →
      wpAny (model prog w) A (isTrue c (compEnvC scope cl C env) (eval c (compEnvC scope cl C env))) (fun okb s₃ => if okb = true then
        wpAny (model prog w) A (eval elt (compEnvC scope cl C env)) (CompEnd h₀ L m { s with heap := h, toks := tk } e oI C oC D (lst ys) (fun n' => n' = (it, oJ) :: news) (fun y _ => Jv (i + 1) (ys ++ [y]))) E' s₃
        else CompEnd h₀ L m { s with heap := h, toks := tk } e oI C oC D (lst ys) (fun n' => n' = (it, oJ) :: news) (fun _ _ => Jv (i + 1) ys) .none s₃) E' { s with heap := h, toks := tk })
    (fin : ∀ D h tk ys, Jv vs.length ys → Fr h₀ L h m → News h₀ L h ((D, lst ys) :: news) → Off1 D news → Q (.ref D) { s with heap := h, toks := tk }) : EcSrc prog w A h₀ L m env c elt a b scope cl Q (.ref e) s
open PySem.Spec PyProof.Rows.LCg in
theorem ec_ListComp {prog : Program} {w : World} {A : Around} {E : Value → Shared → Prop} {s : Shared} {h₀ : Heap} {L : Addr} {m : Str → Option Value} {env : Env} {elt iter c : PySem.Expr} {a b : Str} {pa pb tp : Pos} {kk : Nat} {scope : PySem.Scope} {cl : List (Str × Addr)} {pos : Pos} {Q : Value → Shared → Prop} (_F₀ : Fr h₀ L s.heap m)
    (hclos : closureFor scope env = pure cl) (hcell : ∀ y ∈ scope.names, y.2 ≠ .cell) (hkind : scope.kind = .function) (hnames : ∀ y ∈ scope.names, y.2 = .local → scope.names.lookup y.1 = some .local)
    (hxa : scope.names.lookup a = some .local) (hxb : scope.names.lookup b = some .local) (hab : ¬ a = b)
    (h : wpAny (model prog w) A (eval iter env) (EcSrc prog w A h₀ L m env c elt a b scope cl Q) E s)
    (hs : ∀ x, foldedSetIterable iter env x = pure x := by intro _; rfl) :
    wpAny (model prog w) A (eval (.ListComp elt [⟨.Tuple [.Name a pa, .Name b pb] kk tp, iter, [c], 0⟩] scope pos) env) Q E s := by
  rw [eval_ListComp]
  refine wpAny_comprehension_free (use := none) rfl hs hclos hkind hnames (wpAny_mono h (fun xv s₁ h₁ => ?_) fun _ _ e => e)
  obtain ⟨e, it, l, lo, vs, n, news, Jv, hh, hl, hlc, hld, hsz, he, hi, hei, F, N, hLe, hLi, e0, i0, oe, oi, J0, turn, fin⟩ := h₁
  refine wpAny_pyIter_enum he ?_
  refine ec_block Jv hh hl hlc hld hsz he hi hei hcell hkind hxa hxb hab F N hLe hLi e0 i0 oe oi J0 turn ?_
  intro D C h tk m' ys F' N' o1 hn hC₀ hD₀ hCL hDL hCD offC hJ
  refine ⟨m', hn, fun h'' hs'' => fin D h'' tk ys hJ (F'.change hs'' hCL hC₀) (fun p hp => ?_) o1⟩
  refine ⟨hs''.extBut _ _ ?_ (N' p hp).1, (N' p hp).2⟩
  rcases List.mem_cons.mp hp with rfl | hp
  · exact Ne.symm hCD
  · exact offC p hp
open PySem.Spec PyProof.Rows.LCg in
theorem ec_call {prog : Program} {w : World} {A : Around} {E : Value → Shared → Prop} {s : Shared} {h₀ : Heap} {L : Addr} {m : Str → Option Value} {env : Env} {elt c : PySem.Expr} {a b : Str} {scope : PySem.Scope} {cl : List (Str × Addr)} {Q : Value → Shared → Prop} {l : Addr} {lo : Obj} {vs : List Value} {n : Nat} {news : Led} (Jv : Nat → List Value → Prop)
    (hh : A.handled = none) (F : Fr h₀ L s.heap m) (N : News h₀ L s.heap news) (hl : (l, lo) ∈ news) (hlc : lo.cls = .type "list") (hld : lo.data = .seq vs.toArray n) (hsz : vs.length ≤ sizeLine) (J0 : Jv 0 [])
    (turn : ∀ e it i x ys, vs[i]? = some x → Jv i ys → ∀ t oI oJ C oC D m₂ h tk (E' : Value → Shared → Prop), NsObj oC m₂ → m₂ a = some (.int i t) → m₂ b = some x → Fr h₀ L h m → News h₀ L h ((e, oI) :: (C, oC) :: (D, lst ys) :: (it, oJ) :: news) → Off3 e C D ((it, oJ) :: news) →
      wpAny (model prog w) A (isTrue c (compEnvC scope cl C env) (eval c (compEnvC scope cl C env))) (fun okb s₃ => if okb = true then
        wpAny (model prog w) A (eval elt (compEnvC scope cl C env)) (CompEnd h₀ L m { s with heap := h, toks := tk } e oI C oC D (lst ys) (fun n' => n' = (it, oJ) :: news) (fun y _ => Jv (i + 1) (ys ++ [y]))) E' s₃
        else CompEnd h₀ L m { s with heap := h, toks := tk } e oI C oC D (lst ys) (fun n' => n' = (it, oJ) :: news) (fun _ _ => Jv (i + 1) ys) .none s₃) E' { s with heap := h, toks := tk })
    (fin : ∀ D h tk ys, Jv vs.length ys → Fr h₀ L h m → News h₀ L h ((D, lst ys) :: news) → Off1 D news → Q (.ref D) { s with heap := h, toks := tk }) :
    wpAny (model prog w) A (call (.type "enumerate") [.ref l]) (EcSrc prog w A h₀ L m env c elt a b scope cl Q) E s := by
  have hax := N _ hl
  have LL : s.heap.IsList l vs.toArray := ⟨lo, hax.1, hlc, n, hld⟩
  refine call_enumerate_list LL fun h' hE hI hsz' hk => ?_
  have fr : ∀ q, @LE.le Nat _ s.heap.objs.size q → h₀.get? q = none := fun q hq => by
    cases z : h₀.get? q with
    | none => rfl
    | some o => exact absurd (Heap.lt_size (F.keep q o z)) (Nat.not_lt.mpr hq)
  have Llt : @LT.lt Nat _ L s.heap.objs.size := F.ns.lt
  exact ⟨s.heap.objs.size + 1, s.heap.objs.size, l, lo, vs, n, news, Jv, hh, hl, hlc, hld, hsz, hE, hI, Nat.succ_ne_self _, F.keeps hk, N.grown hk, fun z => by have z' : @Eq Nat L (s.heap.objs.size + 1) := z; omega, Nat.ne_of_lt Llt, fr _ (Nat.le_succ _), fr _ (Nat.le_refl _),
    fun p hp => Nat.ne_of_lt (Nat.lt_succ_of_lt (Heap.lt_size (N p hp).1)), fun p hp => Nat.ne_of_lt (Heap.lt_size (N p hp).1), J0, turn _ _, fin⟩

end
section
theorem accs_t {T : List Int} {room odd : Int} {i : Nat} (h : Int.fmod (i : Int) 2 = odd) : accs T room odd (i + 1) = accs T room odd i ++ [T.getD i 0 + Int.fdiv (i : Int) 2 * room] := by
  simp [accs, List.range_succ, h]
theorem accs_f {T : List Int} {room odd : Int} {i : Nat} (h : ¬ Int.fmod (i : Int) 2 = odd) : accs T room odd (i + 1) = accs T room odd i := by
  simp [accs, List.range_succ, h]
theorem across_con {w : World} {R : Led} {l : Addr} {vs : List Value} {n : Nat} {Ts : List Int} {room odd : Int} {t1 t2 : Tok} (hm : (l, listOf vs.toArray n) ∈ R) (hT : IntsAre vs Ts) (h5 : Ts.length = 5) (ho : odd = 0 ∨ odd = 1) :
  Con w 1 223 [.ref l, .int room t1, .int odd t2] [] R (PInt (leastOf (accs Ts room odd 5))) := by
  (k_with "left 11" => skip)
  (k_with "left 12" => skip)
  (k_with "eval ListComp" => (fail_if_success k_extra "left 13"); ((k_here; k_dflt (refine ec_ListComp (by k_asm) (by with_unfolding_all rfl) (by decide) (by rfl) (by decide) (by rfl) (by rfl) (by decide) ?_))))
  (k_with "call type:enumerate" => (fail_if_success k_extra "left 13"); (fail "stop"))
  refine con_gen (fun P' hPP => ?_)
  refine' con_cells (binds := [(_, _), (_, _), (_, _)]) ?ho ?hfd ?hcd ?hb ?hl ?c1 ?c2 ?c3 ?c4 ?hh; (case ho => k_dflt k_is); (case hfd => refine' fd_lit ?x1 ?x2 ?x3; (case x1 => (conv => lhs; whnf)); (case x2 => (conv => lhs; whnf)); (case x3 => (conv => lhs; whnf))); (case hcd => k_dflt k_is); (case hb => exact rfl); (case hl => exact rfl); (case c1 => exact rfl); (case c2 => exact rfl); (case c3 => exact rfl); (case c4 => decide +kernel)
  intro loose mean mg mb dp un gd outer A₀ base g L h₁ s₀ tk cells Q₀ hq₀ hn₀ B F X N Y l1 T hd hu
  (try simp only [List.cons_append, List.nil_append, List.append_nil] at l1)
  have l0 := l1
  (replace l1 := allLt_of l1)
  (try simp only [AllLt, and_true] at l1)
  (try dsimp only at Y)
  k_cells Y
  (try simp only [List.cons_append, List.nil_append, List.append_nil] at N)
  (try dsimp only [List.reverse, List.reverseAux] at F)
  (try dsimp only)
  (try k_fold)
  (first | (refine letAE ?_; intro A9 E9) | skip)
  repeat' (first | (k_unfold; (try dsimp only)) | (with_reducible refine hideQ ?_; intro Q9 hQ9) | (with_reducible refine hideQ2 ?_; intro Q9 hQ9) | (with_reducible refine hQ9 _ _ ?_; try clear hQ9 Q9) | walk1 | (dsimp only; walk1) | (dsimp only; k_unfold; (try dsimp only)) | fail "no step")
  (try dsimp only)
  refine ec_call (vs := vs) (fun i ys => IntsAre ys (accs Ts room odd i)) rfl (by k_asm) (by k_asm) (.tail _ (.tail _ hm)) rfl rfl (by rw [sizeLine_eq, ints_len hT, h5]; decide) .nil ?turn ?fin
  (case turn =>
    intro e it i x ys hx hJ t oI oJ C oC D m2 h tk2 E' hC ha hb F2 N2 off
    have hi : i < Ts.length := by rw [← ints_len hT]; exact (List.getElem?_eq_some_iff.mp hx).1
    obtain ⟨t', hx'⟩ := ints_get hT hi
    have hx2 : x = .int (Ts.getD i 0) t' := Option.some.inj (hx.symm.trans hx')
    subst hx2
    (try dsimp only)
    repeat' (first | (k_unfold; (try dsimp only)) | (with_reducible refine hideQ ?_; intro Q9 hQ9) | (with_reducible refine hideQ2 ?_; intro Q9 hQ9) | (with_reducible refine hQ9 _ _ ?_; try clear hQ9 Q9) | walk1 | (dsimp only; walk1) | (dsimp only; k_unfold; (try dsimp only)) | fail "no step")
    all_goals (dsimp only; refine LCg.CompEnd.intro (by k_asm) (by k_asm) _ (fun p hp => hp) off rfl ?_; first | (rw [accs_t (by assumption)]; exact ints_snoc hJ rfl) | (rw [accs_f (by assumption)]; exact hJ)))
  (case fin =>
    intro D h tk2 ys hJ F2 N2 off
    have h5' : vs.length = 5 := (ints_len hT).trans h5
    rw [h5'] at hJ
    have hne : 0 < (accs Ts room odd 5).length := by
      rcases ho with rfl | rfl <;> (show 0 < (List.map _ (List.filter _ (List.range 5))).length; rw [List.length_map]; decide)
    (try dsimp only)
    repeat' (first | (k_unfold; (try dsimp only)) | (with_reducible refine hideQ ?_; intro Q9 hQ9) | (with_reducible refine hideQ2 ?_; intro Q9 hQ9) | (with_reducible refine hQ9 _ _ ?_; try clear hQ9 Q9) | walk1 | (dsimp only; walk1) | (dsimp only; k_unfold; (try dsimp only)) | fail "no step")
    exact ret0 hq₀ (by k_asm) (by k_asm) (by (first | walk_at "my suf" | fail "my suf")) (hPP _ _ (PInt.of (Least.eq ⟨by assumption, by assumption⟩))))

end
section
inductive PNamesR (T : List Int) : Value → Led → Prop
  | mk (l : Addr) (vs : List Value) (h : IntsAre vs T) : PNamesR T (.ref l) [(l, listOf (List.toArray vs) vs.length)]
inductive PNames (a b c d : Int) : Value → Led → Prop
  | mk (l : Addr) (t0 t1 t2 t3 : Tok) : PNames a b c d (.ref l) [(l, listOf #[.int a t0, .int b t1, .int c t2, .int d t3] 4)]
theorem PNames.el {a b c d : Int} (K : Value → Led → Prop) (k : ∀ l t0 t1 t2 t3, K (.ref l) [(l, listOf #[.int a t0, .int b t1, .int c t2, .int d t3] 4)]) (r : Value) (A : Led) (h : PNames a b c d r A) : K r A := by cases h; exact k _ _ _ _ _
theorem namesR_con {w : World} {R : Led} {st ls bs : Addr} {n : Nat} {rs : List {x : Addr × Th // ThAt R x.1 x.2}} (hst : (st, tupObj #[.ref ls, .ref bs]) ∈ R) (hls : (ls, listOf (rs.map fun x => Value.ref x.1.1).toArray n) ∈ R) (h4 : rs.length = 4) :
  Con w 1 228 [.ref st] [] R (PNamesR (rs.map fun x => x.1.2.nm)) := by
  (k_with "left 13" => skip)
  (k_with "CompSrc" => (fail_if_success k_extra "left 14"); (fail "stop"))
  (k_with "eval ListComp" => (fail_if_success k_extra "left 14"); ((k_here; k_dflt (refine LCg.ListComp_U (F₀ := by k_asm) (by with_unfolding_all rfl) (by decide) (by rfl) (by decide) (by rfl) ?_))))
  refine con_gen (fun P' hPP => ?_)
  refine' con_plain (binds := [(_, _)]) ?ho ?hfd ?hcd ?hb ?hl ?c1 ?c2 ?c3 ?c4 ?hh; (case ho => k_dflt k_is); (case hfd => refine' fd_lit ?x1 ?x2 ?x3; (case x1 => (conv => lhs; whnf)); (case x2 => (conv => lhs; whnf)); (case x3 => (conv => lhs; whnf))); (case hcd => k_dflt k_is); (case hb => exact rfl); (case hl => exact locs rfl); (case c1 => exact rfl); (case c2 => exact rfl); (case c3 => exact rfl); (case c4 => decide)
  intro loose mean mg mb dp un gd outer A₀ base g L h₁ s₀ tk Q₀ hq₀ hn₀ B F X N T hd hu
  (try simp only [List.cons_append, List.nil_append, List.append_nil] at N)
  (try dsimp only [List.reverse, List.reverseAux] at F)
  (try dsimp only)
  (try k_fold)
  (first | (refine letAE ?_; intro A9 E9) | skip)
  repeat' (first | (k_unfold; (try dsimp only)) | (with_reducible refine hideQ ?_; intro Q9 hQ9) | (with_reducible refine hideQ2 ?_; intro Q9 hQ9) | (with_reducible refine hQ9 _ _ ?_; try clear hQ9 Q9) | ((fail_if_success (with_reducible show LCg.CompSrc _ _ _ _ _ _ _ _ _ _ _ _ _ _)); walk1) | ((fail_if_success (with_reducible show LCg.CompSrc _ _ _ _ _ _ _ _ _ _ _ _ _ _)); dsimp only; walk1) | (dsimp only; k_unfold; (try dsimp only)) | fail "no step")
  have hz : (rs.map fun x => Value.ref x.1.1).toArray.size = 4 := by simp [h4]
  refine LCg.CompSrc.ledger (by rfl) (by k_asm) (by k_asm) hls (by rw [hz, sizeLine_eq]; decide) (fun g' => ?_)
  rw [hz]
  refine comp_ind (J := fun i ys nw => nw = R ∧ IntsAre ys ((rs.take i).map fun x => x.1.2.nm)) ?st1 ?fn1 _ 0 [] _ (Nat.zero_add _) ⟨rfl, .nil⟩
  (case st1 =>
    rintro i ys nw hi ⟨e, hys⟩ v I2 oI C oC D m2 h2 tk3 E2 hv hC hx F3 N3 off
    subst e
    have hi' : i < rs.length := by rw [h4]; exact hi
    have hv' : v = .ref (rs[i]).1.1 := by
      have q : (rs.map fun x => Value.ref x.1.1)[i]? = some v := by simpa using hv
      rw [List.getElem?_map, List.getElem?_eq_getElem hi'] at q
      exact (Option.some.inj q).symm
    subst hv'
    obtain ⟨k1, k2, k3, mth⟩ := (rs[i]).2
    (try dsimp only)
    repeat' (first | (k_unfold; (try dsimp only)) | (with_reducible refine hideQ ?_; intro Q9 hQ9) | (with_reducible refine hideQ2 ?_; intro Q9 hQ9) | (with_reducible refine hQ9 _ _ ?_; try clear hQ9 Q9) | ((fail_if_success (with_reducible show LCg.CompSrc _ _ _ _ _ _ _ _ _ _ _ _ _ _)); walk1) | ((fail_if_success (with_reducible show LCg.CompSrc _ _ _ _ _ _ _ _ _ _ _ _ _ _)); dsimp only; walk1) | (dsimp only; k_unfold; (try dsimp only)) | fail "no step")
    rw [List.take_succ_eq_append_getElem hi', List.map_append]
    exact ints_snoc hys rfl)
  (case fn1 =>
    rintro ys nw ⟨e, hys⟩
    subst e
    have hys' : IntsAre ys (rs.map fun x => x.1.2.nm) := by rw [List.take_of_length_le (by rw [h4]; decide)] at hys; exact hys
    repeat' (first | (k_unfold; (try dsimp only)) | (with_reducible refine hideQ ?_; intro Q9 hQ9) | (with_reducible refine hideQ2 ?_; intro Q9 hQ9) | (with_reducible refine hQ9 _ _ ?_; try clear hQ9 Q9) | ((fail_if_success (with_reducible show LCg.CompSrc _ _ _ _ _ _ _ _ _ _ _ _ _ _)); walk1) | ((fail_if_success (with_reducible show LCg.CompSrc _ _ _ _ _ _ _ _ _ _ _ _ _ _)); dsimp only; walk1) | (dsimp only; k_unfold; (try dsimp only)) | fail "no step")
    exact ret1 hq₀ (by k_asm) (by k_asm) (by (first | walk_at "my suf" | fail "my suf")) (.head _) (AptL.get (by assumption)) (hPP _ _ (.mk _ _ hys')))
theorem ints_uncons {vs : List Value} {d : Int} {ds : List Int} (h : IntsAre vs (d :: ds)) : ∃ t us, vs = .int d t :: us ∧ IntsAre us ds := by
  cases h with | cons _ t h => exact ⟨t, _, rfl, h⟩
theorem ints_none {vs : List Value} (h : IntsAre vs []) : vs = [] := by cases h; rfl
theorem ints4 {vs : List Value} {a b c d : Int} (h : IntsAre vs [a, b, c, d]) : ∃ t0 t1 t2 t3, vs = [.int a t0, .int b t1, .int c t2, .int d t3] := by
  obtain ⟨t0, us, rfl, h1⟩ := ints_uncons h
  obtain ⟨t1, us, rfl, h2⟩ := ints_uncons h1
  obtain ⟨t2, us, rfl, h3⟩ := ints_uncons h2
  obtain ⟨t3, us, rfl, h4⟩ := ints_uncons h3
  obtain rfl := ints_none h4
  exact ⟨t0, t1, t2, t3, rfl⟩
theorem names4_con {w : World} {R : Led} {s : Addr} {σ : St} {x0 x1 x2 x3 : Th} (h : StAt w R R s σ) (hx : σ.row = [x0, x1, x2, x3]) :
  Con w 1 228 [.ref s] [] R (PNames x0.nm x1.nm x2.nm x3.nm) := by
  obtain ⟨ls, bs, n, kvs, ob, rs, a1, a2, a3, a4, a5, a6, a7, a8⟩ := h.parts
  refine con_post (namesR_con a1 a2 a7) fun r A h => ?_
  obtain ⟨l, vs, hi⟩ := h
  have e : (rs.map fun x => x.1.2.nm) = [x0.nm, x1.nm, x2.nm, x3.nm] := by
    have : (rs.map fun x => x.1.2.nm) = (rs.map fun x => x.1.2).map (·.nm) := by rw [List.map_map]; rfl
    rw [this, a6, hx]; rfl
  rw [e] at hi
  obtain ⟨t0, t1, t2, t3, rfl⟩ := ints4 hi
  exact .mk l t0 t1 t2 t3

end
section
section
theorem roomR_con {w : World} {R : Led} {sl e : Addr} {ss : List Value} {ns : Nat} {th : Th} {nm : Int} {t : Tok} (hn : 0 ≤ nm ∧ nm < 4) (hsl : (sl, listOf ss.toArray ns) ∈ R) (hx : ss[nm.toNat]? = some (.ref e)) (hth : ThAt R e th) :
  Con w 1 218 [.ref sl, .int nm t] [] R (PInt (th.l + th.r)) := by
  obtain ⟨k1, k2, k3, mth⟩ := hth
  (k_with "left 14" => skip)
  (k_with "subscriptTail Name Name ref int" => (fail_if_success k_extra "left 16"); ((k_here; (with_reducible show wpAny _ _ (subscriptTail _ _ (Value.ref _) (Value.int _ _)) _ _ _); k_dflt (refine' item_sym ?w₉N ?w₉m ?w₉a ?w₉b ?w₉x ?_; (case w₉N => k_asm); (case w₉m => k_mem); (case w₉a => omega); (case w₉b => omega); (case w₉x => assumption)))))
  refine con_gen (fun P' hPP => ?_)
  refine' con_plain (binds := [(_, _), (_, _)]) ?ho ?hfd ?hcd ?hb ?hl ?c1 ?c2 ?c3 ?c4 ?hh; (case ho => k_dflt k_is); (case hfd => refine' fd_lit ?x1 ?x2 ?x3; (case x1 => (conv => lhs; whnf)); (case x2 => (conv => lhs; whnf)); (case x3 => (conv => lhs; whnf))); (case hcd => k_dflt k_is); (case hb => exact rfl); (case hl => exact locs rfl); (case c1 => exact rfl); (case c2 => exact rfl); (case c3 => exact rfl); (case c4 => decide)
  intro loose mean mg mb dp un gd outer A₀ base g L h₁ s₀ tk Q₀ hq₀ hn₀ B F X N T hd hu
  (try simp only [List.cons_append, List.nil_append, List.append_nil] at N)
  (try dsimp only [List.reverse, List.reverseAux] at F)
  (try dsimp only)
  (try k_fold)
  (first | (refine letAE ?_; intro A9 E9) | skip)
  repeat' (first | (k_unfold; (try dsimp only)) | (with_reducible refine hideQ ?_; intro Q9 hQ9) | (with_reducible refine hideQ2 ?_; intro Q9 hQ9) | (with_reducible refine hQ9 _ _ ?_; try clear hQ9 Q9) | walk1 | (dsimp only; walk1) | (dsimp only; k_unfold; (try dsimp only)) | fail "no step")
  exact ret0 hq₀ (by k_asm) (by k_asm) (by (first | walk_at "my suf" | fail "my suf")) (hPP _ _ (.mk _))
end

end
section
theorem cross_iter {w : World} {A : Around} {E : Value → Shared → Prop} {h₀ : Heap} {env : Env} {target : PySem.Expr} {body : List Stmt} {Q : Flow → Shared → Prop} {s : Shared} {R : Led} {m0 : Str → Option Value} {t p1 p2 sr sf : Addr} {σr σf : St} {K : St → St → Prop} (ns : List Str)
    (hh : A.handled = none) (F : Fr h₀ env.locals s.heap m0) (N : News h₀ env.locals s.heap ((t, tupObj #[.ref p1, .ref p2]) :: (p2, tupObj #[.ref sf, .ref sr]) :: (p1, tupObj #[.ref sr, .ref sf]) :: R))
    (hr : StAt w R R sr σr) (hf : StAt w R R sf σf) (k1 : K σr σf) (k2 : K σf σr)
    (step : ∀ (I p sa sb : Addr) (σa σb : St) (R2 : Led) m o' h tk (J' : (Str → Option Value) → Prop) (Q' : Flow → Shared → Prop), (∀ q ∈ R, q ∈ R2) → (∀ q ∈ R2, q.1 < I) → (p, tupObj #[.ref sa, .ref sb]) ∈ R2 → StAt w R2 R2 sa σa → StAt w R2 R2 sb σb → K σa σb → Agr ns m m0 → (∀ m', Agr ns m' m0 → J' m') → Fr h₀ env.locals h m → News h₀ env.locals h ((I, o') :: R2) →
      wpAny (model PP w) A (assign target env (.ref p)) (fun _ s₂ => wpAny (model PP w) A (execs body env) (TurnPost h₀ env.locals [(I, o')] R2 { s with heap := h, toks := tk } J' Q') E s₂) E { s with heap := h, toks := tk })
    (fin : ∀ m R2, Agr ns m m0 → (∀ q ∈ R, q ∈ R2) → ∀ h tk, Fr h₀ env.locals h m → News h₀ env.locals h R2 → Q .next { s with heap := h, toks := tk }) :
    wpAny (model PP w) A (pyIter (.ref t)) (fun it s₂ => TurnsAt PP w A h₀ env target body Q E it s₂) E s := by
  obtain ⟨R2, hR2⟩ : ∃ R2, R2 = ((t, tupObj #[.ref p1, .ref p2]) :: (p2, tupObj #[.ref sf, .ref sr]) :: (p1, tupObj #[.ref sr, .ref sf]) :: R) := ⟨_, rfl⟩
  have hsub : ∀ q ∈ R, q ∈ R2 := fun q hq => hR2 ▸ .tail _ (.tail _ (.tail _ hq))
  have m0' : (t, tupObj #[.ref p1, .ref p2]) ∈ R2 := hR2 ▸ .head _
  have m1' : (p1, tupObj #[.ref sr, .ref sf]) ∈ R2 := hR2 ▸ .tail _ (.tail _ (.head _))
  have m2' : (p2, tupObj #[.ref sf, .ref sr]) ∈ R2 := hR2 ▸ .tail _ (.head _)
  rw [← hR2] at N
  clear hR2
  refine tup_loop (α := {x : Addr × (Addr × St) × (Addr × St) // (x.1, tupObj #[.ref x.2.1.1, .ref x.2.2.1]) ∈ R2 ∧ StAt w R R x.2.1.1 x.2.1.2 ∧ StAt w R R x.2.2.1 x.2.2.2 ∧ K x.2.1.2 x.2.2.2}) (β := Unit) (xs := [⟨(p1, (sr, σr), (sf, σf)), m1', hr, hf, k1⟩, ⟨(p2, (sf, σf), (sr, σr)), m2', hf, hr, k2⟩])
    (fun x => .ref x.1.1) (fun b _ => b) (fun _ m => Agr ns m m0) () hh F N m0' Agr.refl ?_ (fun m hm h tk F N => fin m R2 hm hsub h tk F N)
  rintro I hI ⟨⟨p, ⟨sa, σa⟩, ⟨sb, σb⟩⟩, mm, ha, hb, hk⟩ _ m hm J' Q' hJ' _ o' h tk F N
  exact step I p sa sb σa σb R2 m o' h tk J' Q' hsub hI mm (ha.mono hsub hsub) (hb.mono hsub hsub) hk hm hJ' F N
theorem crossed_con {w : World} {R : Led} {sr sf sl tl l0' l1' : Addr} {σr σf : St} {rs : List {x : Addr × Th // ThAt R x.1 x.2}} {n nt n0 n1 : Nat} {v0 v1 : List Value} {T0 T1 : List Int}
  (hr : StAt w R R sr σr) (hf : StAt w R R sf σf) (hs : (sl, listOf (rs.map fun x => Value.ref x.1.1).toArray n) ∈ R) (h4 : rs.length = 4)
  (ht : (tl, listOf #[.ref l0', .ref l1'] nt) ∈ R) (ht0 : (l0', listOf v0.toArray n0) ∈ R) (ht1 : (l1', listOf v1.toArray n1) ∈ R) (hT0 : IntsAre v0 T0) (hT1 : IntsAre v1 T1) (q0 : T0.length = 5) (q1 : T1.length = 5)
  (hc1 : crossOne (rs.map (·.1.2)) T0 T1 σr σf) (hc2 : crossOne (rs.map (·.1.2)) T0 T1 σf σr) :
  Con w 3 240 [.ref sr, .ref sf, .ref sl, .ref tl] [] R (PBool true) := by
  (k_with "left 16" => skip)
  (k_with "left 15" => skip)
  (k_with "k_lt" => (fail_if_success k_extra "left 17"); (skip))
  (k_with "call ref" => (fail_if_success k_extra "left 17"); ((k_here; k_dflt (refine' con_use0 PInt.el isub_con ?w₉k1 ?w₉k2 ?w₉k3 ?w₉k4 ?w₉k5 ?w₉kK ?w₉kI ?w₉kd ?w₉ku ?_); (case w₉k1 => k_asm); (case w₉k2 => k_asm); (case w₉k3 => k_asm); (case w₉k4 => k_asm); (case w₉k5 => k_asm); (case w₉kK => first | exact rfl | assumption); (case w₉kI => first | (intro _ hp₉; replace hp₉ := hsub _ hp₉; (repeat' first | exact hp₉ | refine List.Mem.tail _ ?_); done) | walk_at "my sub"); (case w₉kd => (first | omega | ktr_room)); (case w₉ku => (first | omega | ktr_units)); k_whole; intro t₉ h₉ tk₉ F₉ N₉; (try dsimp only); (try k_sweep))))
  (k_with "call ref" => (fail_if_success k_extra "left 17"); ((k_here; k_dflt (refine' con_use0 PInt.el (across_con hU0 hT0 q0 (.inr rfl)) ?w₉k1 ?w₉k2 ?w₉k3 ?w₉k4 ?w₉k5 ?w₉kK ?w₉kI ?w₉kd ?w₉ku ?_); (case w₉k1 => k_asm); (case w₉k2 => k_asm); (case w₉k3 => k_asm); (case w₉k4 => k_asm); (case w₉k5 => k_asm); (case w₉kK => first | exact rfl | assumption); (case w₉kI => first | (intro _ hp₉; replace hp₉ := hsub _ hp₉; (repeat' first | exact hp₉ | refine List.Mem.tail _ ?_); done) | walk_at "my sub"); (case w₉kd => (first | omega | ktr_room)); (case w₉ku => (first | omega | ktr_units)); k_whole; intro t₉ h₉ tk₉ F₉ N₉; (try dsimp only); (try k_sweep))))
  (k_with "call ref" => (fail_if_success k_extra "left 17"); ((k_here; k_dflt (refine' con_use0 PInt.el (across_con hU1 hT1 q1 (.inr rfl)) ?w₉k1 ?w₉k2 ?w₉k3 ?w₉k4 ?w₉k5 ?w₉kK ?w₉kI ?w₉kd ?w₉ku ?_); (case w₉k1 => k_asm); (case w₉k2 => k_asm); (case w₉k3 => k_asm); (case w₉k4 => k_asm); (case w₉k5 => k_asm); (case w₉kK => first | exact rfl | assumption); (case w₉kI => first | (intro _ hp₉; replace hp₉ := hsub _ hp₉; (repeat' first | exact hp₉ | refine List.Mem.tail _ ?_); done) | walk_at "my sub"); (case w₉kd => (first | omega | ktr_room)); (case w₉ku => (first | omega | ktr_units)); k_whole; intro t₉ h₉ tk₉ F₉ N₉; (try dsimp only); (try k_sweep))))
  (k_with "call ref" => (fail_if_success k_extra "left 17"); ((k_here; k_dflt (refine' con_use0 PInt.el (roomR_con hnm hS hrr hth) ?w₉k1 ?w₉k2 ?w₉k3 ?w₉k4 ?w₉k5 ?w₉kK ?w₉kI ?w₉kd ?w₉ku ?_); (case w₉k1 => k_asm); (case w₉k2 => k_asm); (case w₉k3 => k_asm); (case w₉k4 => k_asm); (case w₉k5 => k_asm); (case w₉kK => first | exact rfl | assumption); (case w₉kI => first | (intro _ hp₉; replace hp₉ := hsub _ hp₉; (repeat' first | exact hp₉ | refine List.Mem.tail _ ?_); done) | walk_at "my sub"); (case w₉kd => (first | omega | ktr_room)); (case w₉ku => (first | omega | ktr_units)); k_whole; intro t₉ h₉ tk₉ F₉ N₉; (try dsimp only); (try k_sweep))))
  (k_with "call ref" => (fail_if_success k_extra "left 17"); ((k_here; k_dflt (refine' con_use1 PNames.el (names4_con ha hrow) ?w₉k1 ?w₉k2 ?w₉k3 ?w₉k4 ?w₉k5 ?w₉kK ?w₉kI ?w₉kd ?w₉ku ?_); (case w₉k1 => k_asm); (case w₉k2 => k_asm); (case w₉k3 => k_asm); (case w₉k4 => k_asm); (case w₉k5 => k_asm); (case w₉kK => first | exact rfl | assumption); (case w₉kI => first | (intro _ hp₉; replace hp₉ := hsub _ hp₉; (repeat' first | exact hp₉ | refine List.Mem.tail _ ?_); done) | walk_at "my sub"); (case w₉kd => (first | omega | ktr_room)); (case w₉ku => (first | omega | ktr_units)); k_whole; intro l₉ t0₉ t1₉ t2₉ t3₉ h₉ tk₉ F₉ N₉ Z₉; (try walk_at "my aptl"); (try simp only [List.cons_append, List.nil_append] at N₉); (try dsimp only); (try k_sweep))))
  (k_with "subscriptTail" => (fail_if_success k_extra "left 17"); ((k_here; (with_reducible show wpAny _ _ (subscriptTail _ _ (Value.ref _) (Value.int _ _)) _ _ _); k_dflt (refine' kda_item (knd := PySem.intKind _ _) ?w₉N ?w₉m ?w₉d (intKind_is _ _ _ _) ?w₉l ?_; (case w₉N => k_asm); (case w₉m => k_mem); (case w₉d => k_asm); (case w₉l => assumption)))))
  refine con_gen (fun P' hPP => ?_)
  refine' con_plain (binds := [(_, _), (_, _), (_, _), (_, _)]) ?ho ?hfd ?hcd ?hb ?hl ?c1 ?c2 ?c3 ?c4 ?hh; (case ho => k_dflt k_is); (case hfd => refine' fd_lit ?x1 ?x2 ?x3; (case x1 => (conv => lhs; whnf)); (case x2 => (conv => lhs; whnf)); (case x3 => (conv => lhs; whnf))); (case hcd => k_dflt k_is); (case hb => exact rfl); (case hl => exact locs rfl); (case c1 => exact rfl); (case c2 => exact rfl); (case c3 => exact rfl); (case c4 => decide)
  intro loose mean mg mb dp un gd outer A₀ base g L h₁ s₀ tk Q₀ hq₀ hn₀ B F X N T hd hu
  (try simp only [List.cons_append, List.nil_append, List.append_nil] at N)
  (try dsimp only [List.reverse, List.reverseAux] at F)
  (try dsimp only)
  (try k_fold)
  (first | (refine letAE ?_; intro A9 E9) | skip)
  repeat' (first | (k_unfold; (try dsimp only)) | (with_reducible refine hideQ ?_; intro Q9 hQ9) | (with_reducible refine hideQ2 ?_; intro Q9 hQ9) | (with_reducible refine hQ9 _ _ ?_; try clear hQ9 Q9) | walk1 | (dsimp only; walk1) | (dsimp only; k_unfold; (try dsimp only)) | fail "no step")
  refine cross_iter (K := crossOne (rs.map (·.1.2)) T0 T1) ["earlier", "later", "name", "room", "gave", "took"] rfl (by k_asm) (by k_asm) hr hf hc1 hc2 ?step ?fin
  (case step =>
    intro I p sa sb σa σb R2 m o' h tk2 J' Q' hsub hI hp ha hb hk hm hJ' F2 N2
    refine hide_goal fun X9 hX9 => ?_
    obtain ⟨x0, x1, x2, x3, hrow⟩ := four_of (show σa.row.length = 4 by obtain ⟨_, _, _, _, _, _, _, _, _, _, _, h⟩ := ha; exact h.lr)
    obtain ⟨ls, bs, nl, kvs, ob, ra, a1, a2, a3, a4, a5, a6, a7, a8⟩ := ha.parts
    obtain ⟨ls2, bs2, nl2, kvs2, ob2, rb, b1, b2, b3, b4, b5, b6, b7, b8⟩ := hb.parts
    have hr0 : σa.row[0]? = some x0 := by rw [hrow]; rfl
    have hnm := a8.nms 0 x0 hr0
    obtain ⟨ya, va, ca, oca, q1', q2', q3', q4', w1, w2, w3, w4, my, mc, lc, dc⟩ := a8.bk x0.nm hnm.1 hnm.2
    obtain ⟨yb, vb, cb, ocb, p1', p2', p3', p4', z1, z2, z3, z4, my2, mc2, lc2, dc2⟩ := b8.bk x0.nm hnm.1 hnm.2
    obtain ⟨rr, hrr0⟩ : ∃ rr, rs[x0.nm.toNat]? = some rr := ⟨_, List.getElem?_eq_getElem (by rw [h4]; omega)⟩
    have hrr : (rs.map fun x => Value.ref x.1.1)[x0.nm.toNat]? = some (.ref rr.1.1) := by rw [List.getElem?_map, hrr0]; rfl
    have hth : ThAt R2 rr.1.1 rr.1.2 := rr.2.mono hsub
    obtain ⟨g1, g2⟩ := hk x0 rr.1.2 hr0 (by rw [List.getElem?_map, hrr0]; rfl)
    have hS := hsub _ hs
    have hU := hsub _ ht
    have hU0 := hsub _ ht0
    have hU1 := hsub _ ht1
    clear hs ht ht0 ht1 hc1 hc2 hr hf hk a6 b6 a2 b2
    refine hX9 ?_
    clear hX9 X9
    have mS : m (Str.ofString "start") = some (.ref sl) := hm.get rfl rfl
    have mT : m (Str.ofString "tolls") = some (.ref tl) := hm.get rfl rfl
    (try dsimp only)
    repeat' (first | (k_unfold; (try dsimp only)) | (with_reducible refine hideQ ?_; intro Q9 hQ9) | (with_reducible refine hideQ2 ?_; intro Q9 hQ9) | (with_reducible refine hQ9 _ _ ?_; try clear hQ9 Q9) | walk1 | (dsimp only; walk1) | (dsimp only; k_unfold; (try dsimp only)) | fail "no step")
    all_goals first
      | exact absurd g1 (by assumption)
      | exact absurd g2 (by assumption)
      | exact turn_end' (by k_asm) (by k_asm) (by (first | walk_at "my sub" | fail "my sub")) (by (first | walk_at "my suf" | fail "my suf")) (hJ' _ (by repeat (first | exact hm | refine Agr.set ?_ rfl))))

  (case fin =>
    intro m R2 hm hsub h tk2 F2 N2
    (try dsimp only)
    repeat' (first | (k_unfold; (try dsimp only)) | (with_reducible refine hideQ ?_; intro Q9 hQ9) | (with_reducible refine hideQ2 ?_; intro Q9 hQ9) | (with_reducible refine hQ9 _ _ ?_; try clear hQ9 Q9) | walk1 | (dsimp only; walk1) | (dsimp only; k_unfold; (try dsimp only)) | fail "no step")
    exact ret0 hq₀ (by k_asm) (by k_asm) hsub (hPP _ _ .mk))

end
section
noncomputable def Cnt (f : Int → Int) (i : Nat) (kvs : List (Int × Value)) : Prop := ∃ ts : Nat → Tok, kvs = (List.range i).map fun (k : Nat) => ((k : Int), Value.int (f k) (ts k))
theorem Cnt.nil {f : Int → Int} : Cnt f 0 [] := ⟨fun _ => 0, rfl⟩
theorem Cnt.step {f : Int → Int} {i : Nat} {kvs : List (Int × Value)} {z : Int} {t : Tok} (h : Cnt f i kvs) (e : z = f i) : Cnt f (i + 1) (stored kvs (i : Int) (.int z t)) := by
  obtain ⟨ts, rfl⟩ := h
  refine ⟨fun k => if k = i then t else ts k, ?_⟩
  have hany : ((List.range i).map fun (k : Nat) => ((k : Int), Value.int (f k) (ts k))).any (fun kv => decide (kv.1 = (i : Int))) = false := by
    rw [List.any_eq_false]
    intro x hx
    obtain ⟨k, hk, rfl⟩ := List.mem_map.mp hx
    have := List.mem_range.mp hk
    simp; omega
  unfold stored
  rw [hany]
  simp only [Bool.false_eq_true, if_false, List.range_succ, List.map_append, List.map_cons, List.map_nil, if_true, e]
  congr 1
  apply List.map_congr_left
  intro k hk
  have := List.mem_range.mp hk
  rw [if_neg (by omega)]
theorem log4 {a : Int} (h : 0 ≤ a ∧ a < 4) : (if a = 0 then 0 else a.natAbs.log2 + 1) ≤ 2 := by
  have : a = 0 ∨ a = 1 ∨ a = 2 ∨ a = 3 := by omega
  rcases this with rfl | rfl | rfl | rfl <;> decide
theorem lay4 {a b c d : Int} (ha : 0 ≤ a ∧ a < 4) (hb : 0 ≤ b ∧ b < 4) (hc : 0 ≤ c ∧ c < 4) (hd : 0 ≤ d ∧ d < 4) : PyData.layable0 (.list ([a, b, c, d].map .int)) = true := by
  have h1 := log4 ha
  have h2 := log4 hb
  have h3 := log4 hc
  have h4 := log4 hd
  simp [PyData.layable0, PyData.canLay0, PyData.canLayAll0, PyData.depth, PyData.depthAll, PyData.weight, PyData.weightAll]
  omega
theorem cnt_at {f : Int → Int} {kvs : List (Int × Value)} (h : Cnt f 4 kvs) {n : Int} (hn : 0 ≤ n ∧ n < 4) : ∃ t, valueAt kvs n = some (.int (f n) t) := by
  obtain ⟨ts, rfl⟩ := h
  have : n = 0 ∨ n = 1 ∨ n = 2 ∨ n = 3 := by omega
  rcases this with rfl | rfl | rfl | rfl
  · exact ⟨ts 0, rfl⟩
  · exact ⟨ts 1, rfl⟩
  · exact ⟨ts 2, rfl⟩
  · exact ⟨ts 3, rfl⟩
theorem idx4 {a b c d k : Int} (h1 : a ≠ b) (h2 : a ≠ c) (h3 : a ≠ d) (h4 : b ≠ c) (h5 : b ≠ d) (h6 : c ≠ d) (hk : k ∈ [a, b, c, d]) : (k = a ∧ List.idxOf k [a, b, c, d] = 0) ∨ (k = b ∧ List.idxOf k [a, b, c, d] = 1) ∨ (k = c ∧ List.idxOf k [a, b, c, d] = 2) ∨ (k = d ∧ List.idxOf k [a, b, c, d] = 3) := by
  simp only [List.mem_cons, List.not_mem_nil, or_false] at hk
  rcases hk with rfl | rfl | rfl | rfl
  · exact .inl ⟨rfl, by simp [List.idxOf_cons]⟩
  · exact .inr (.inl ⟨rfl, by simp [List.idxOf_cons, beq_false_of_ne h1]⟩)
  · exact .inr (.inr (.inl ⟨rfl, by simp [List.idxOf_cons, beq_false_of_ne h2, beq_false_of_ne h4]⟩))
  · exact .inr (.inr (.inr ⟨rfl, by simp [List.idxOf_cons, beq_false_of_ne h3, beq_false_of_ne h5, beq_false_of_ne h6]⟩))
theorem in4 {a : Int} (h : 0 ≤ a ∧ a < 4) : a ∈ [(0 : Int), 1, 2, 3] := by
  simp only [List.mem_cons, List.not_mem_nil, or_false]
  omega
theorem perm4_all : (([0, 1, 2, 3] : List Int).all fun a => ([0, 1, 2, 3] : List Int).all fun b => ([0, 1, 2, 3] : List Int).all fun c => ([0, 1, 2, 3] : List Int).all fun d => ([0, 1, 2, 3] : List Int).all fun k => decide (a ≠ b → a ≠ c → a ≠ d → b ≠ c → b ≠ d → c ≠ d → k ∈ [a, b, c, d])) = true := by decide +kernel
theorem perm4 {a b c d k : Int} (ha : 0 ≤ a ∧ a < 4) (hb : 0 ≤ b ∧ b < 4) (hc : 0 ≤ c ∧ c < 4) (hd : 0 ≤ d ∧ d < 4) (h1 : a ≠ b) (h2 : a ≠ c) (h3 : a ≠ d) (h4 : b ≠ c) (h5 : b ≠ d) (h6 : c ≠ d) (hk : 0 ≤ k ∧ k < 4) : k ∈ [a, b, c, d] :=
  of_decide_eq_true (List.all_eq_true.mp (List.all_eq_true.mp (List.all_eq_true.mp (List.all_eq_true.mp (List.all_eq_true.mp perm4_all a (in4 ha)) b (in4 hb)) c (in4 hc)) d (in4 hd)) k (in4 hk)) h1 h2 h3 h4 h5 h6
theorem unr_close {h₀ h' : Heap} {L I : Addr} {o' : Obj} {all news' : Led} {rest : (Str → Option Value) → Led → Prop} {s₁ : Shared} {tk : Nat} {m' : Str → Option Value} (F : Fr h₀ L h' m') (N : News h₀ L h' all) (it : (I, o') ∈ all) (sub : ∀ p ∈ news', p ∈ all) (off : ∀ p ∈ news', @Ne Nat p.1 I) (r : rest m' news') :
    UnrEndW h₀ L s₁ [(I, o')] rest { s₁ with heap := h', toks := tk } :=
  ⟨h', tk, m', news', rfl, F, news_sub N (fun p hp => by
    rcases List.mem_cons.mp hp with rfl | hp
    · exact it
    · exact sub p hp), fun p hp q hq => by rw [List.mem_singleton.mp hq]; exact off p hp, r⟩
theorem eq_ints {A : Around} {s : Shared} {vs us : List Value} {T : List Int} (h : IntsAre vs T) (h' : IntsAre us T) : EqAll A s vs us := by
  induction h generalizing us with
  | nil => cases h'; exact .nil
  | cons _ _ _ ih => cases h' with
    | cons _ _ r => exact .cons (eq_int rfl) (ih r)
theorem eq_lists2 {prog : Program} {w : World} {A : Around} {E : Value → Shared → Prop} {s : Shared} {h₀ : Heap} {L a b x1 x2 y1 y2 : Addr} {news : Led} {n m n1 n2 m1 m2 : Nat} {v1 v2 u1 u2 : List Value} {T0 T1 : List Int} {Q : Value → Shared → Prop} (N : News h₀ L s.heap news)
    (ha : (a, listOf #[.ref x1, .ref x2] n) ∈ news) (hb : (b, listOf #[.ref y1, .ref y2] m) ∈ news) (h1 : (x1, listOf v1.toArray n1) ∈ news) (h2 : (x2, listOf v2.toArray n2) ∈ news) (h3 : (y1, listOf u1.toArray m1) ∈ news) (h4 : (y2, listOf u2.toArray m2) ∈ news)
    (i1 : IntsAre v1 T0) (i2 : IntsAre v2 T1) (j1 : IntsAre u1 T0) (j2 : IntsAre u2 T1) (hu : A.units + 1 < cLine) (hq : Q (.bool true) s) : wpAny (model prog w) A (compareOp .Eq (.ref a) (.ref b)) Q E s :=
  rc_list (xs := [_, _]) (ys := [_, _]) (N.isList ha) (N.isList hb) (by omega) (.cons (eq_ref (rc_list (N.isList h1) (N.isList h3) hu (eq_ints i1 j1))) (.cons (eq_ref (rc_list (N.isList h2) (N.isList h4) hu (eq_ints i2 j2))) .nil)) prog w E Q hq
theorem lt_un1 {un k c : Nat} (h : un + k + 9 < c) : un + 1 < c := by omega
theorem lt_un {un k m c : Nat} (h : un + k + m < c) : un < c := by omega
theorem fits_iter {w : World} {A : Around} {E : Value → Shared → Prop} {h₀ : Heap} {env : Env} {body : List Stmt} {Q : Flow → Shared → Prop} {s : Shared} {R : Led} {m0 : Str → Option Value} {x : Str} {px : Pos} {r l L : Addr} {lo oN oP oS : Obj} {vN vP : Option Value} {t₀ u₀ v₀ : Tok} (ns : List Str)
    (hh : A.handled = none) (hr : IsRange s.heap r 0 4 1 t₀ u₀ v₀) (F : Fr h₀ env.locals s.heap m0) (N : News h₀ env.locals s.heap ((l, lo) :: (L + 1 + 1 + 1, oN) :: (L + 1 + 1, oP) :: (L + 1, oS) :: R))
    (n1 : @Ne Nat l (L + 1 + 1 + 1)) (n2 : @Ne Nat l (L + 1 + 1)) (hR : ∀ p ∈ R, p.1 < L) (d1 : oN.data = .cell vN) (d2 : oP.data = .cell vP)
    (step : ∀ (I : Addr) (R2 : Led) (i : Nat) m (oN oP : Obj) (vN vP : Option Value) (J' : (Str → Option Value) → Led → Prop) (Q' : Flow → Shared → Prop), i < 4 → (∀ p ∈ R, p ∈ R2) → (l, lo) ∈ R2 → (L + 1, oS) ∈ R2 → (∀ p ∈ R2, p.1 ≠ L + 1 + 1 + 1) → (∀ p ∈ R2, p.1 ≠ L + 1 + 1) → (∀ p ∈ R2, @Ne Nat p.1 I) → L + 1 + 1 + 1 < I → oN.data = .cell vN → oP.data = .cell vP → Agr ns m m0 →
      (∀ m' oN oP vN vP, oN.data = .cell vN → oP.data = .cell vP → Agr ns m' m0 → J' m' ((L + 1 + 1 + 1, oN) :: (L + 1 + 1, oP) :: R2)) → ∀ t o' h tk, Fr h₀ env.locals h m → News h₀ env.locals h ((I, o') :: (L + 1 + 1 + 1, oN) :: (L + 1 + 1, oP) :: R2) →
      wpAny (model PP w) A (assign (.Name x px) env (.int (i : Int) t)) (fun _ s₂ => wpAny (model PP w) A (execs body env) (UnrPostW h₀ env.locals { s with heap := h, toks := tk } [(I, o')] J' Q') E s₂) E { s with heap := h, toks := tk })
    (fin : ∀ m (R2 : Led) (oN oP : Obj), (∀ p ∈ R, p ∈ R2) → (l, lo) ∈ R2 → (L + 1, oS) ∈ R2 → Agr ns m m0 → ∀ h tk, Fr h₀ env.locals h m → News h₀ env.locals h ((L + 1 + 1 + 1, oN) :: (L + 1 + 1, oP) :: R2) → Q .next { s with heap := h, toks := tk }) :
    wpAny (model PP w) A (pyIter (.ref r)) (fun it s₂ => TurnsAt PP w A h₀ env (.Name x px) body Q E it s₂) E s := by
  obtain ⟨R2, hR2⟩ : ∃ R2 : Led, R2 = (l, lo) :: (L + 1, oS) :: R := ⟨_, rfl⟩
  have N2 : News h₀ env.locals s.heap ((L + 1 + 1 + 1, oN) :: (L + 1 + 1, oP) :: R2) := news_sub N fun p hp => by
    rw [hR2] at hp
    simp only [List.mem_cons] at hp ⊢
    rcases hp with h | h | h | h | h <;> simp [h]
  have hsub : ∀ q ∈ R, q ∈ R2 := fun q hq => hR2 ▸ .tail _ (.tail _ hq)
  have m1 : (l, lo) ∈ R2 := hR2 ▸ .head _
  have m2 : (L + 1, oS) ∈ R2 := hR2 ▸ .tail _ (.head _)
  have ap : ∀ d : Nat, L + 1 < d → @Ne Nat l d → ∀ p ∈ R2, @Ne Nat p.1 d := fun d h1 h2 p hp => by
    rw [hR2] at hp
    rcases List.mem_cons.mp hp with rfl | hp
    · exact h2
    rcases List.mem_cons.mp hp with rfl | hp
    · exact Nat.ne_of_lt h1
    · have : @LT.lt Nat _ p.1 L := hR p hp
      exact Nat.ne_of_lt (Nat.lt_trans this (Nat.lt_trans (Nat.lt_succ_self L) h1))
  clear hR2
  refine range_loopT (n := 4) (fun _ m nw => ∃ oN oP vN vP, nw = (L + 1 + 1 + 1, oN) :: (L + 1 + 1, oP) :: R2 ∧ oN.data = .cell vN ∧ oP.data = .cell vP ∧ Agr ns m m0) hh hr (by decide +kernel) (by decide +kernel) F N2 ⟨oN, oP, vN, vP, rfl, d1, d2, Agr.refl⟩ ?_ ?_
  · rintro I hI i m nw hi ⟨oN, oP, vN, vP, rfl, d1, d2, hm⟩ J' Q' hJ' _ t o' h tk F N
    have e : (0 + (i : Int)) = i := Int.zero_add _
    rw [e]
    exact step I R2 i m oN oP vN vP J' Q' hi hsub m1 m2 (ap _ (Nat.lt_trans (Nat.lt_succ_self _) (Nat.lt_succ_self _)) n1) (ap _ (Nat.lt_succ_self _) n2) (fun p hp => Nat.ne_of_lt (hI p (.tail _ (.tail _ hp)))) (hI _ (.head _)) d1 d2 hm (fun m' oN oP vN vP a b c => hJ' _ _ ⟨oN, oP, vN, vP, rfl, a, b, c⟩) t o' h tk F N
  · rintro m nw ⟨oN, oP, vN, vP, rfl, d1, d2, hm⟩ h tk F N
    exact fin m R2 oN oP hsub m1 m2 hm h tk F N
theorem fits_con {w : World} {R : Led} {st sl tl l0' l1' : Addr} {σ : St} {rs : List {x : Addr × Th // ThAt R x.1 x.2}} {n nt n0 n1 : Nat} {v0 v1 : List Value} {T0 T1 : List Int}
  (hst : StAt w R R st σ) (hS : (sl, listOf (rs.map fun x => Value.ref x.1.1).toArray n) ∈ R) (h4 : rs.length = 4)
  (ht : (tl, listOf #[.ref l0', .ref l1'] nt) ∈ R) (hU0 : (l0', listOf v0.toArray n0) ∈ R) (hU1 : (l1', listOf v1.toArray n1) ∈ R) (hT0 : IntsAre v0 T0) (hT1 : IntsAre v1 T1) (q0 : T0.length = 5) (q1 : T1.length = 5)
  (hf : Fits (rs.map (·.1.2)) T0 T1 σ) :
  Con w 3 233 [.ref st, .ref sl, .ref tl] [] R (PBool true) := by
  obtain ⟨x0, x1, x2, x3, hrow⟩ := four_of (show σ.row.length = 4 by obtain ⟨_, _, _, _, _, _, _, _, _, _, _, h⟩ := hst; exact h.lr)
  obtain ⟨ls, bs, nl, kvs, ob, ra, a1, a2, a3, a4, a5, a6, a7, a8⟩ := hst.parts
  have r0 : σ.row[0]? = some x0 := by rw [hrow]; rfl
  have r1 : σ.row[1]? = some x1 := by rw [hrow]; rfl
  have r2 : σ.row[2]? = some x2 := by rw [hrow]; rfl
  have r3 : σ.row[3]? = some x3 := by rw [hrow]; rfl
  have m0 := a8.nms _ _ r0
  have m1 := a8.nms _ _ r1
  have m2 := a8.nms _ _ r2
  have m3 := a8.nms _ _ r3
  have d01 := a8.dis _ _ _ _ r0 r1 (by decide)
  have d02 := a8.dis _ _ _ _ r0 r2 (by decide)
  have d03 := a8.dis _ _ _ _ r0 r3 (by decide)
  have d12 := a8.dis _ _ _ _ r1 r2 (by decide)
  have d13 := a8.dis _ _ _ _ r1 r3 (by decide)
  have d23 := a8.dis _ _ _ _ r2 r3 (by decide)
  have hLay := lay4 m0 m1 m2 m3
  have hAll : ∀ k : Int, (0 ≤ k ∧ k < 4) → k ∈ [x0.nm, x1.nm, x2.nm, x3.nm] := fun k hk => perm4 m0 m1 m2 m3 d01 d02 d03 d12 d13 d23 hk
  have hCN : ∀ (i : Nat) (x : Th), σ.row[i]? = some x → ∀ k : Int, (0 ≤ k ∧ k < 4) → (σ.bk x.nm).c k = (if (List.idxOf k [x0.nm, x1.nm, x2.nm, x3.nm] : Int) < i then 1 else 0) - (if k < x.nm then 1 else 0) := by
    intro i x hx k hk
    rcases idx4 d01 d02 d03 d12 d13 d23 (hAll k hk) with ⟨rfl, e⟩ | ⟨rfl, e⟩ | ⟨rfl, e⟩ | ⟨rfl, e⟩ <;> rw [e]
    · have := hf.who i 0 x x0 hx r0; rw [this]; simp only [Int.ofNat_lt]
    · have := hf.who i 1 x x1 hx r1; rw [this]; simp only [Int.ofNat_lt]
    · have := hf.who i 2 x x2 hx r2; rw [this]; simp only [Int.ofNat_lt]
    · have := hf.who i 3 x x3 hx r3; rw [this]; simp only [Int.ofNat_lt]
  have hTC0 : ∀ t, Con w 2 211 [.ref ls, .int 0 t] [] R (PInts T0) := fun t => con_post (tolls_con (side := 0) ⟨by decide, by decide⟩ a2 a7) fun r A h => by rw [a6, hf.t0] at h; exact h
  have hTC1 : ∀ t, Con w 2 211 [.ref ls, .int 1 t] [] R (PInts T1) := fun t => con_post (tolls_con (side := 1) ⟨by decide, by decide⟩ a2 a7) fun r A h => by rw [a6, hf.t1] at h; exact h
  clear m0 m1 m2 m3 d01 d02 d03 d12 d13 d23
  (k_with "left 17" => skip)
  (k_with "omega" => (fail_if_success k_extra "left 18"); (first | with_reducible (first | assumption | exact neG1 | exact neG2 | exact neG3 | exact neL1 | exact neL2 | exact neL3 | exact leL1 | exact leL2 | exact leL3 | exact leL4 | exact And.left (by assumption) | exact And.right (by assumption) | exact Nat.ne_of_lt (by assumption) | exact Nat.ne_of_gt (by assumption)) | exact b63 (by with_reducible assumption) rfl))
  (k_with "exec For Name Call cons nil" => (fail_if_success k_extra "left 18"); (walk_at "my for"))
  (k_with "compareOp NotEq ref ref" => (fail_if_success k_extra "left 18"); ((k_here; (with_reducible show wpAny _ _ (compareOp CmpOp.NotEq (Value.ref _) (Value.ref _)) _ _ _); k_dflt (refine' ne_tup (xs := [_, _]) (ys := [_, _]) ?w₉a ?w₉b ?w₉c ?w₉d ?_; (case w₉a => exact News.isTup (by k_asm) (by k_mem)); (case w₉b => exact News.isTup (by k_asm) (by k_mem)); (case w₉c => exact lt_un hu); (case w₉d => exact .cons (eq_int (by assumption)) (.cons (eq_int (by assumption)) .nil))))))
  (k_with "call builtin:list.index" => (fail_if_success k_extra "left 18"); ((k_here; k_dflt (refine' index_list_ints ?w₉a ?w₉b ?w₉c ?w₉d ?_; (case w₉a => exact News.isList (by k_asm) (by k_mem)); (case w₉b => exact hNI); (case w₉c => exact hLay); (case w₉d => exact hAll _ (by omega))))))
  (k_with "subscriptTail Name Constant ref int" => (fail_if_success k_extra "left 18"); (first | walk_at "my lit" | (k_here; (with_reducible show wpAny _ _ (subscriptTail _ _ (Value.ref _) (Value.int _ _)) _ _ _); k_dflt (refine' item_sym ?w₉N ?w₉m ?w₉a ?w₉b ?w₉x ?_; (case w₉N => k_asm); (case w₉m => k_mem); (case w₉a => decide); (case w₉b => decide); (case w₉x => assumption)))))
  (k_with "compareOp Eq ref ref" => (fail_if_success k_extra "left 18"); ((k_here; (with_reducible show wpAny _ _ (compareOp CmpOp.Eq (Value.ref _) (Value.ref _)) _ _ _); k_dflt (refine' eq_lists2 ?w₉N ?w₉a ?w₉b ?w₉c ?w₉d ?w₉e ?w₉f ?w₉g ?w₉h ?w₉i ?w₉j ?w₉k ?_; (case w₉N => k_asm); (case w₉a => k_mem); (case w₉b => k_mem); (case w₉c => k_mem); (case w₉d => k_mem); (case w₉e => k_mem); (case w₉f => k_mem); (case w₉g => assumption); (case w₉h => assumption); (case w₉i => assumption); (case w₉j => assumption); (case w₉k => exact lt_un1 hu)))))
  (k_with "k_all" => (fail_if_success k_extra "left 18"); (first | exact all_ne_lt (by assumption) (by omega) | assumption))
  (k_with "subscriptTail" => (fail_if_success k_extra "left 18"); ((k_here; (with_reducible show wpAny _ _ (subscriptTail _ _ (Value.ref _) (Value.int _ _)) _ _ _); k_dflt (refine' kda_item (knd := PySem.intKind _ _) ?w₉N ?w₉m ?w₉d (intKind_is _ _ _ _) ?w₉l ?_; (case w₉N => k_asm); (case w₉m => k_mem); (case w₉d => k_asm); (case w₉l => assumption)))))
  (k_with "subscriptTail Name Name ref int" => (fail_if_success k_extra "left 18"); ((k_here; (with_reducible show wpAny _ _ (subscriptTail _ _ (Value.ref _) (Value.int _ _)) _ _ _); k_dflt (first
      | (refine' item_sym ?w₉N ?w₉m ?w₉a ?w₉b ?w₉x ?_; (case w₉N => k_asm); (case w₉m => k_mem); (case w₉a => omega); (case w₉b => omega); (case w₉x => assumption))
      | (refine' kda_item (knd := PySem.intKind _ _) ?w₉N ?w₉m ?w₉d (intKind_is _ _ _ _) ?w₉l ?_; (case w₉N => k_asm); (case w₉m => k_mem); (case w₉d => k_asm); (case w₉l => assumption))))))
  (k_with "call ref" => (fail_if_success k_extra "left 18"); ((k_here; k_dflt (refine' con_use0 PInt.el (roomR_con hnm hS2 hrr hth) ?w₉k1 ?w₉k2 ?w₉k3 ?w₉k4 ?w₉k5 ?w₉kK ?w₉kI ?w₉kd ?w₉ku ?_); (case w₉k1 => k_asm); (case w₉k2 => k_asm); (case w₉k3 => k_asm); (case w₉k4 => k_asm); (case w₉k5 => k_asm); (case w₉kK => first | exact rfl | assumption); (case w₉kI => first | (intro _ hp₉; replace hp₉ := hsub _ hp₉; (repeat' first | exact hp₉ | refine List.Mem.tail _ ?_); done) | walk_at "my sub"); (case w₉kd => (first | omega | ktr_room)); (case w₉ku => (first | omega | ktr_units)); k_whole; intro t₉ h₉ tk₉ F₉ N₉; (try dsimp only); (try k_sweep))))
  (k_with "call ref" => (fail_if_success k_extra "left 18"); ((k_here; k_dflt (refine' con_use1 PInts.el (hTC0 _) ?w₉k1 ?w₉k2 ?w₉k3 ?w₉k4 ?w₉k5 ?w₉kK ?w₉kI ?w₉kd ?w₉ku ?_); (case w₉k1 => k_asm); (case w₉k2 => k_asm); (case w₉k3 => k_asm); (case w₉k4 => k_asm); (case w₉k5 => k_asm); (case w₉kK => first | exact rfl | assumption); (case w₉kI => first | (intro _ hp₉; replace hp₉ := hsub _ hp₉; (repeat' first | exact hp₉ | refine List.Mem.tail _ ?_); done) | walk_at "my sub"); (case w₉kd => (first | omega | ktr_room)); (case w₉ku => (first | omega | ktr_units)); k_whole; intro l₉ vs₉ n₉ hi₉ h₉ tk₉ F₉ N₉ Z₉; (try walk_at "my aptl"); (try simp only [List.cons_append, List.nil_append] at N₉); (try dsimp only); (try k_sweep))))
  (k_with "call ref" => (fail_if_success k_extra "left 18"); ((k_here; k_dflt (refine' con_use1 PInts.el (hTC1 _) ?w₉k1 ?w₉k2 ?w₉k3 ?w₉k4 ?w₉k5 ?w₉kK ?w₉kI ?w₉kd ?w₉ku ?_); (case w₉k1 => k_asm); (case w₉k2 => k_asm); (case w₉k3 => k_asm); (case w₉k4 => k_asm); (case w₉k5 => k_asm); (case w₉kK => first | exact rfl | assumption); (case w₉kI => first | (intro _ hp₉; replace hp₉ := hsub _ hp₉; (repeat' first | exact hp₉ | refine List.Mem.tail _ ?_); done) | walk_at "my sub"); (case w₉kd => (first | omega | ktr_room)); (case w₉ku => (first | omega | ktr_units)); k_whole; intro l₉ vs₉ n₉ hi₉ h₉ tk₉ F₉ N₉ Z₉; (try walk_at "my aptl"); (try simp only [List.cons_append, List.nil_append] at N₉); (try dsimp only); (try k_sweep))))
  (k_with "call ref" => (fail_if_success k_extra "left 18"); ((k_here; k_dflt (refine' con_use0 PInt.el (roomR_con hn3 hS hq3 hh3) ?w₉k1 ?w₉k2 ?w₉k3 ?w₉k4 ?w₉k5 ?w₉kK ?w₉kI ?w₉kd ?w₉ku ?_); (case w₉k1 => k_asm); (case w₉k2 => k_asm); (case w₉k3 => k_asm); (case w₉k4 => k_asm); (case w₉k5 => k_asm); (case w₉kK => first | exact rfl | assumption); (case w₉kI => first | (intro _ hp₉; replace hp₉ := hsub _ hp₉; (repeat' first | exact hp₉ | refine List.Mem.tail _ ?_); done) | walk_at "my sub"); (case w₉kd => (first | omega | ktr_room)); (case w₉ku => (first | omega | ktr_units)); k_whole; intro t₉ h₉ tk₉ F₉ N₉; (try dsimp only); (try k_sweep))))
  (k_with "call ref" => (fail_if_success k_extra "left 18"); ((k_here; k_dflt (refine' con_use0 PInt.el (roomR_con hn0 hS hq0 hh0) ?w₉k1 ?w₉k2 ?w₉k3 ?w₉k4 ?w₉k5 ?w₉kK ?w₉kI ?w₉kd ?w₉ku ?_); (case w₉k1 => k_asm); (case w₉k2 => k_asm); (case w₉k3 => k_asm); (case w₉k4 => k_asm); (case w₉k5 => k_asm); (case w₉kK => first | exact rfl | assumption); (case w₉kI => first | (intro _ hp₉; replace hp₉ := hsub _ hp₉; (repeat' first | exact hp₉ | refine List.Mem.tail _ ?_); done) | walk_at "my sub"); (case w₉kd => (first | omega | ktr_room)); (case w₉ku => (first | omega | ktr_units)); k_whole; intro t₉ h₉ tk₉ F₉ N₉; (try dsimp only); (try k_sweep))))
  (k_with "call ref" => (fail_if_success k_extra "left 18"); ((k_here; k_dflt (refine' con_use0 PInt.el (across_con hU0 hT0 q0 (.inl rfl)) ?w₉k1 ?w₉k2 ?w₉k3 ?w₉k4 ?w₉k5 ?w₉kK ?w₉kI ?w₉kd ?w₉ku ?_); (case w₉k1 => k_asm); (case w₉k2 => k_asm); (case w₉k3 => k_asm); (case w₉k4 => k_asm); (case w₉k5 => k_asm); (case w₉kK => first | exact rfl | assumption); (case w₉kI => first | (intro _ hp₉; replace hp₉ := hsub _ hp₉; (repeat' first | exact hp₉ | refine List.Mem.tail _ ?_); done) | walk_at "my sub"); (case w₉kd => (first | omega | ktr_room)); (case w₉ku => (first | omega | ktr_units)); k_whole; intro t₉ h₉ tk₉ F₉ N₉; (try dsimp only); (try k_sweep))))
  (k_with "call ref" => (fail_if_success k_extra "left 18"); ((k_here; k_dflt (refine' con_use0 PInt.el (across_con hU1 hT1 q1 (.inl rfl)) ?w₉k1 ?w₉k2 ?w₉k3 ?w₉k4 ?w₉k5 ?w₉kK ?w₉kI ?w₉kd ?w₉ku ?_); (case w₉k1 => k_asm); (case w₉k2 => k_asm); (case w₉k3 => k_asm); (case w₉k4 => k_asm); (case w₉k5 => k_asm); (case w₉kK => first | exact rfl | assumption); (case w₉kI => first | (intro _ hp₉; replace hp₉ := hsub _ hp₉; (repeat' first | exact hp₉ | refine List.Mem.tail _ ?_); done) | walk_at "my sub"); (case w₉kd => (first | omega | ktr_room)); (case w₉ku => (first | omega | ktr_units)); k_whole; intro t₉ h₉ tk₉ F₉ N₉; (try dsimp only); (try k_sweep))))
  (k_with "call ref" => (fail_if_success k_extra "left 18"); ((k_here; k_dflt (refine' con_use0 PInt.el (across_con hU0 hT0 q0 (.inr rfl)) ?w₉k1 ?w₉k2 ?w₉k3 ?w₉k4 ?w₉k5 ?w₉kK ?w₉kI ?w₉kd ?w₉ku ?_); (case w₉k1 => k_asm); (case w₉k2 => k_asm); (case w₉k3 => k_asm); (case w₉k4 => k_asm); (case w₉k5 => k_asm); (case w₉kK => first | exact rfl | assumption); (case w₉kI => first | (intro _ hp₉; replace hp₉ := hsub _ hp₉; (repeat' first | exact hp₉ | refine List.Mem.tail _ ?_); done) | walk_at "my sub"); (case w₉kd => (first | omega | ktr_room)); (case w₉ku => (first | omega | ktr_units)); k_whole; intro t₉ h₉ tk₉ F₉ N₉; (try dsimp only); (try k_sweep))))
  (k_with "call ref" => (fail_if_success k_extra "left 18"); ((k_here; k_dflt (refine' con_use0 PInt.el (across_con hU1 hT1 q1 (.inr rfl)) ?w₉k1 ?w₉k2 ?w₉k3 ?w₉k4 ?w₉k5 ?w₉kK ?w₉kI ?w₉kd ?w₉ku ?_); (case w₉k1 => k_asm); (case w₉k2 => k_asm); (case w₉k3 => k_asm); (case w₉k4 => k_asm); (case w₉k5 => k_asm); (case w₉kK => first | exact rfl | assumption); (case w₉kI => first | (intro _ hp₉; replace hp₉ := hsub _ hp₉; (repeat' first | exact hp₉ | refine List.Mem.tail _ ?_); done) | walk_at "my sub"); (case w₉kd => (first | omega | ktr_room)); (case w₉ku => (first | omega | ktr_units)); k_whole; intro t₉ h₉ tk₉ F₉ N₉; (try dsimp only); (try k_sweep))))
  (k_with "call ref" => (fail_if_success k_extra "left 18"); ((k_here; k_dflt (refine' con_use1 PNames.el (names4_con hst hrow) ?w₉k1 ?w₉k2 ?w₉k3 ?w₉k4 ?w₉k5 ?w₉kK ?w₉kI ?w₉kd ?w₉ku ?_); (case w₉k1 => k_asm); (case w₉k2 => k_asm); (case w₉k3 => k_asm); (case w₉k4 => k_asm); (case w₉k5 => k_asm); (case w₉kK => first | exact rfl | assumption); (case w₉kI => first | (intro _ hp₉; replace hp₉ := hsub _ hp₉; (repeat' first | exact hp₉ | refine List.Mem.tail _ ?_); done) | walk_at "my sub"); (case w₉kd => (first | omega | ktr_room)); (case w₉ku => (first | omega | ktr_units)); k_whole; intro l₉ t0₉ t1₉ t2₉ t3₉ h₉ tk₉ F₉ N₉ Z₉; (try walk_at "my aptl"); (try simp only [List.cons_append, List.nil_append] at N₉); (try dsimp only); (try k_sweep))))
  refine con_gen (fun P' hPP => ?_)
  refine' con_cells (binds := [(_, _), (_, _), (_, _)]) ?ho ?hfd ?hcd ?hb ?hl ?c1 ?c2 ?c3 ?c4 ?hh; (case ho => k_dflt k_is); (case hfd => refine' fd_lit ?x1 ?x2 ?x3; (case x1 => (conv => lhs; whnf)); (case x2 => (conv => lhs; whnf)); (case x3 => (conv => lhs; whnf))); (case hcd => k_dflt k_is); (case hb => exact rfl); (case hl => exact rfl); (case c1 => exact rfl); (case c2 => exact rfl); (case c3 => exact rfl); (case c4 => decide +kernel)
  intro loose mean mg mb dp un gd outer A₀ base g L h₁ s₀ tk cells Q₀ hq₀ hn₀ B F X N Y l1 T hd hu
  (try simp only [List.cons_append, List.nil_append, List.append_nil] at l1)
  have l0 := l1
  (replace l1 := allLt_of l1)
  (try simp only [AllLt, and_true] at l1)
  (try dsimp only at Y)
  k_cells Y
  (try simp only [List.cons_append, List.nil_append, List.append_nil] at N)
  (try dsimp only [List.reverse, List.reverseAux] at F)
  (try dsimp only)
  (try k_fold)
  (first | (refine letAE ?_; intro A9 E9) | skip)
  repeat' (first | (k_unfold; (try dsimp only)) | (with_reducible refine hideQ ?_; intro Q9 hQ9) | (with_reducible refine hideQ2 ?_; intro Q9 hQ9) | (with_reducible refine hQ9 _ _ ?_; try clear hQ9 Q9) | walk1 | (dsimp only; walk1) | (dsimp only; k_unfold; (try dsimp only)) | fail "no step")
  refine fits_iter ["left", "right", "onwards", "more", "gives", "takes", "passed"] rfl (by assumption) (by k_asm) (by k_asm) (by first | k_ne | fail) (by first | k_ne | fail) l0 (by assumption) (by assumption) ?step ?fin
  (case step =>
    intro I R2 i m oN oP vN vP J' Q' hi hsub mL mS a1' a2' a3' hI dN dP hm hJ' t o' h tk2 F2 N2
    refine hide_goal fun X9 hX9 => ?_
    obtain ⟨x, hx⟩ : ∃ x, σ.row[i]? = some x := ⟨_, List.getElem?_eq_getElem (by rw [a8.lr]; omega)⟩
    obtain ⟨ea, hxa, k1, k2, k3, mx⟩ := a8.row i x hx
    have hxi : (ra.map fun x => Value.ref x.1.1)[((i : Nat) : Int).toNat]? = some (.ref ea) := by simpa using hxa
    have hnm := a8.nms i x hx
    obtain ⟨ya, va, ca, oca, q1', q2', q3', q4', w1, w2, w3, w4, my, mc, lc, dc⟩ := a8.bk x.nm hnm.1 hnm.2
    obtain ⟨rr, hrr0⟩ : ∃ rr, rs[x.nm.toNat]? = some rr := ⟨_, List.getElem?_eq_getElem (by rw [h4]; omega)⟩
    have hrr : (rs.map fun x => Value.ref x.1.1)[x.nm.toNat]? = some (.ref rr.1.1) := by rw [List.getElem?_map, hrr0]; rfl
    obtain ⟨g1, g2, g3, g4⟩ := hf.nums i x rr.1.2 hx (by rw [List.getElem?_map, hrr0]; rfl)
    have i0 : (0 : Int) ≤ (i : Int) := Int.natCast_nonneg _
    have i1 : (i : Int) < 4 := by omega
    obtain ⟨e1, e2, e3, mth⟩ := rr.2
    have hth : ThAt R2 rr.1.1 rr.1.2 := rr.2.mono hsub
    have my' := hsub _ my
    have mx' := hsub _ mx
    have mth' := hsub _ mth
    have b1' := hsub _ a1
    have b2' := hsub _ a2
    have b3' := hsub _ a3
    have b4' := hsub _ mc
    have hS2 := hsub _ hS
    have hNI : IntsAre [.int x0.nm t0₉, .int x1.nm t1₉, .int x2.nm t2₉, .int x3.nm t3₉] [x0.nm, x1.nm, x2.nm, x3.nm] := .cons _ _ (.cons _ _ (.cons _ _ (.cons _ _ .nil)))
    refine hX9 ?_
    clear hX9 X9
    have mB : m (Str.ofString "books") = some (.ref bs) := hm.get rfl rfl
    have mR : m (Str.ofString "row") = some (.ref ls) := hm.get rfl rfl
    have mS' : m (Str.ofString "start") = some (.ref sl) := hm.get rfl rfl
    clear mx my a1 a2 a3 mth mc
    have i4 : @LT.lt Nat _ (L + 1 + 1 + 1) I := hI
    (try dsimp only at F2 N2)
    (try dsimp only)
    repeat' (first | ((fail_if_success (with_reducible show wpAny _ _ (PySem.eval (PySem.Expr.DictComp _ _ _ _ _) _) _ _ _)); (fail_if_success (with_reducible show Exists _)); first | (k_unfold; (try dsimp only)) | (with_reducible refine hideQ ?_; intro Q9 hQ9) | (with_reducible refine hideQ2 ?_; intro Q9 hQ9) | (with_reducible refine hQ9 _ _ ?_; try clear hQ9 Q9) | walk1 | (dsimp only; walk1) | (dsimp only; k_unfold; (try dsimp only))) | fail "no step")
    all_goals first | exact absurd g3 (by assumption) | exact absurd g4 (by assumption) | skip
    refine dc_DictComp 4 (by k_asm) rfl (by with_unfolding_all rfl) (by decide) rfl (by decide) rfl (by decide) ?_
    (try dsimp only)
    repeat' (first | ((fail_if_success (with_reducible show wpAny _ _ (PySem.eval (PySem.Expr.DictComp _ _ _ _ _) _) _ _ _)); (fail_if_success (with_reducible show Exists _)); first | (k_unfold; (try dsimp only)) | (with_reducible refine hideQ ?_; intro Q9 hQ9) | (with_reducible refine hideQ2 ?_; intro Q9 hQ9) | (with_reducible refine hQ9 _ _ ?_; try clear hQ9 Q9) | walk1 | (dsimp only; walk1) | (dsimp only; k_unfold; (try dsimp only))) | fail "no step")
    refine ⟨_, _, _, _, _, fun j kv nw => nw = _ ∧ Cnt (fun k => (if (List.idxOf k [x0.nm, x1.nm, x2.nm, x3.nm] : Int) < i then 1 else 0) - (if k < x.nm then 1 else 0)) j kv, by assumption, by k_asm, by k_asm, Top.nolimit (by k_asm), ⟨rfl, Cnt.nil⟩, ?turn, ?done⟩
    (case turn =>
      rintro j kv nw hj ⟨rfl, hJ⟩ t9 I9 oI9 oC9 C9 D9 oD9 m9 h9 tk9 E9 hD9 hC9 hx9 F9 N9 off9
      (try dsimp only)
      walk1
      refine ⟨⟨_, rfl⟩, ?_⟩
      repeat' (first | (k_unfold; (try dsimp only)) | (with_reducible refine hideQ ?_; intro Q9 hQ9) | (with_reducible refine hideQ2 ?_; intro Q9 hQ9) | (with_reducible refine hQ9 _ _ ?_; try clear hQ9 Q9) | walk1 | (dsimp only; walk1) | (dsimp only; k_unfold; (try dsimp only)) | fail "no step")
      exact Cnt.step hJ (by simp only [b2i]; (repeat' split) <;> simp_all))
    (case done =>
      rintro D9 oD9 h9 tk9 kv nw ⟨rfl, hC⟩ hD9 lo9 F9 N9 off9
      (try dsimp only)
      refine kne_pairs (knd := intKind PP w) (r := true) N9 (a := ca) (oa := oca) (by first | k_mem | fail "k_mem") (.head _) dc hD9 lc lo9 (by obtain ⟨ts, rfl⟩ := hC; rfl) (lt_un hu) (hits4 rfl fun n z1 z2 => ?hits) ?_
      (case hits =>
        obtain ⟨t5, e5⟩ := cnt_at hC ⟨z1, z2⟩
        have e6 := hCN i x hx n ⟨z1, z2⟩
        have hn : n = 0 ∨ n = 1 ∨ n = 2 ∨ n = 3 := by omega
        rcases hn with rfl | rfl | rfl | rfl <;> exact ⟨_, _, rfl, e5, eq_int e6⟩)
      (try dsimp only)
      repeat' (first | (k_unfold; (try dsimp only)) | (with_reducible refine hideQ ?_; intro Q9 hQ9) | (with_reducible refine hideQ2 ?_; intro Q9 hQ9) | (with_reducible refine hQ9 _ _ ?_; try clear hQ9 Q9) | walk1 | (dsimp only; walk1) | (dsimp only; k_unfold; (try dsimp only)) | fail "no step")
      refine' unr_close (news' := (L + 1 + 1 + 1, ?oN) :: (L + 1 + 1, ?oP) :: R2) ?kF ?kN ?it ?sub ?off (hJ' _ _ _ _ _ ?dN ?dP ?ag)
      (case kF => k_asm)
      (case kN => k_asm)
      (case it => first | k_mem | fail)
      (case sub => (first | walk_at "my sub" | fail "my sub"))
      (case dN => assumption)
      (case dP => assumption)
      (case off => exact all_cons (by show @Ne Nat _ _; omega) (all_cons (by show @Ne Nat _ _; omega) (a3')))
      (case ag => repeat (first | exact hm | refine Agr.set ?_ rfl))))
  (case fin =>
    intro m R2 oN oP hsub mL mS hm h tk2 F2 N2
    have mB : m (Str.ofString "books") = some (.ref bs) := hm.get rfl rfl
    have mR : m (Str.ofString "row") = some (.ref ls) := hm.get rfl rfl
    have mS' : m (Str.ofString "start") = some (.ref sl) := hm.get rfl rfl
    have mT : m (Str.ofString "tolls") = some (.ref tl) := hm.get rfl rfl
    have hn3 := a8.nms 3 x3 r3
    have hn0 := a8.nms 0 x0 r0
    refine hide_goal fun X9 hX9 => ?_
    obtain ⟨e3, v3, k31, k32, k33, mth3⟩ := a8.row 3 x3 r3
    obtain ⟨e0, v0', k01, k02, k03, mth0⟩ := a8.row 0 x0 r0
    obtain ⟨g3, hg3⟩ : ∃ rr, rs[x3.nm.toNat]? = some rr := ⟨_, List.getElem?_eq_getElem (by rw [h4]; omega)⟩
    obtain ⟨g0, hg0⟩ : ∃ rr, rs[x0.nm.toNat]? = some rr := ⟨_, List.getElem?_eq_getElem (by rw [h4]; omega)⟩
    refine hX9 ?_
    clear hX9 X9
    have hq3 : (rs.map fun x => Value.ref x.1.1)[x3.nm.toNat]? = some (.ref g3.1.1) := by rw [List.getElem?_map, hg3]; rfl
    have hq0 : (rs.map fun x => Value.ref x.1.1)[x0.nm.toNat]? = some (.ref g0.1.1) := by rw [List.getElem?_map, hg0]; rfl
    have hh3 := g3.2
    have hh0 := g0.2
    have z3 := hf.last x3 g3.1.2 r3 (by rw [List.getElem?_map, hg3]; rfl)
    have z0 := hf.first x0 g0.1.2 r0 (by rw [List.getElem?_map, hg0]; rfl)
    have y1 := hsub _ a2
    have y2 := hsub _ mth3
    have y3 := hsub _ mth0
    have y4 := hsub _ ht
    have y5 := hsub _ hU0
    have y6 := hsub _ hU1
    clear hst mth3 mth0
    (try dsimp only at F2 N2)
    (try dsimp only)
    repeat' (first | (k_unfold; (try dsimp only)) | (with_reducible refine hideQ ?_; intro Q9 hQ9) | (with_reducible refine hideQ2 ?_; intro Q9 hQ9) | (with_reducible refine hQ9 _ _ ?_; try clear hQ9 Q9) | walk1 | (dsimp only; walk1) | (dsimp only; k_unfold; (try dsimp only)) | fail "no step")
    exact ret0 hq₀ (by k_asm) (by k_asm) (by intro p hp; replace hp := hsub _ hp; (repeat' first | exact hp | refine List.Mem.tail _ ?_)) (hPP _ _ .mk))

end
section
theorem all_sub_ne {R N : Led} {D : Nat} (h : ∀ p ∈ N, @LT.lt Nat _ p.1 D) (s : ∀ p ∈ R, p ∈ N) : ∀ q ∈ R, q.1 ≠ D := fun q hq => Nat.ne_of_lt (h q (s q hq))
theorem srt_names (r : List Nat) : ∀ n ∈ srt r, n ∈ [(0 : Int), 1, 2, 3] := by
  have h : srt r ∈ perms := (bubs_congr (p := fun n m => col4 r m n) (q := fun n m => col4 r m n) (fun _ _ _ _ => rfl) (by decide) downs_lt).2
  exact fun n hn => name_in h hn
section
inductive POrd1 (T : List Int) : Value → Led → Prop
  | mk (l : Addr) (vs : List Value) (m : Nat) (c : Addr) (oc : Obj) (fv : Array Value) (tq : Tok) (hi : IntsAre vs T) (hf : oc.data = .fields fv) (hv : fv[1]? = some (.str (Str.ofString "_law_order.<locals>.<lambda>") tq)) :
    POrd1 T (.ref l) [(l, listOf (List.toArray vs) m), (242, tabObj #[rawInt 193, rawInt 32, .ref c]), (c, oc)]
theorem order_con {w : World} {R : Led} {wl e0 e1 e2 e3 : Addr} {a0 a1 a2 b0 b1 b2 c0 c1 c2 d0 d1 d2 i : Int} {n : Nat} {t : Tok} {ta0 ta1 ta2 ta3 tb0 tb1 tb2 tb3 tc0 tc1 tc2 tc3 td0 td1 td2 td3 : Tok} {col : Int → Int}
  (hw : (wl, listOf #[.ref e0, .ref e1, .ref e2, .ref e3] n) ∈ R) (h0 : (e0, tupObj #[.int a0 ta0, .int a1 ta1, .int a2 ta2, .int 0 ta3]) ∈ R) (h1 : (e1, tupObj #[.int b0 tb0, .int b1 tb1, .int b2 tb2, .int 1 tb3]) ∈ R)
  (h2 : (e2, tupObj #[.int c0 tc0, .int c1 tc1, .int c2 tc2, .int 2 tc3]) ∈ R) (h3 : (e3, tupObj #[.int d0 td0, .int d1 td1, .int d2 td2, .int 3 td3]) ∈ R) (hT : ∀ q ∈ R, q.1 ≠ 242) (hi : i = 0 ∨ i = 1 ∨ i = 2)
  (g0 : [a0, a1, a2, 0].getD i.toNat 0 = col 0) (g1 : [b0, b1, b2, 1].getD i.toNat 0 = col 1) (g2 : [c0, c1, c2, 2].getD i.toNat 0 = col 2) (g3 : [d0, d1, d2, 3].getD i.toNat 0 = col 3) :
  Con w 2 247 [.ref wl, .int i t] [(242, tabObj #[])] R (POrd1 (srt (rks col))) := by
  have i0 : 0 ≤ i := by rcases hi with rfl | rfl | rfl <;> decide
  have i4 : i < 4 := by rcases hi with rfl | rfl | rfl <;> decide
  have i63 : i < 2 ^ 63 := Int.lt_trans i4 (by decide)
  (k_with "left 18" => skip)
  (k_with "k_lt" => (fail_if_success k_extra "left 19"); (skip))
  (k_with "eval Lambda" => (fail_if_success k_extra "left 20"); ((k_here; kn_here; k_dflt (refine' kla_eval ?w₉d0 ?_; (case w₉d0 => exact rfl)); k_dflt (refine' kla_nest ?w₉F ?w₉N ?w₉T ?w₉C ?w₉cd ?w₉U ?w₉t ?w₉n ?w₉cl ?_; (case w₉F => k_asm); (case w₉N => k_asm); (case w₉T => k_asm); (case w₉cd => exact rfl); (case w₉C => kn_code); (case w₉U => k_updF); (case w₉t => kn_triples); (case w₉n => kn_among); (case w₉cl => exact rfl); k_whole); intro lam₉ cod₉ ocd₉ fvs₉ tcd₉ ctv₉ h₉ tk₉ F₉ N₉ d1₉ d2₉ la₉ lb₉; (try dsimp only at N₉); (try k_lt la₉); (try k_lt2 lb₉))))
  (k_with "KasFin" => (fail_if_success k_extra "left 20"); ((k_dflt (refine' KasFin.intro ?w₉F ?w₉N ?w₉U ?_; (case w₉F => k_asm); (case w₉N => k_asm); (case w₉U => k_updF); k_whole); intro h₉ c₉ F₉ N₉; (try dsimp only at N₉); (try k_sweep))))
  (k_with "kasWp" => (fail_if_success k_extra "left 20"); ((k_dflt (refine' sort4_tups (col := col) ?w₉hb ?w₉N ?w₉m0 ?w₉m1 ?w₉m2 ?w₉m3 ?w₉e0 ?w₉e1 ?w₉e2 ?w₉e3 ?_; (case w₉hb => exact rfl); (case w₉N => k_asm); (case w₉m0 => k_mem); (case w₉m1 => k_mem); (case w₉m2 => k_mem); (case w₉m3 => k_mem); (case w₉e0 => exact g0); (case w₉e1 => exact g1); (case w₉e2 => exact g2); (case w₉e3 => exact g3)); intro p₉ hp₉; (try dsimp only))))
  (k_with "call type:range" => (fail_if_success k_extra "left 20"); ((k_here; k_dflt (refine' range_led ?w₉F ?w₉N ?_; (case w₉F => k_asm); (case w₉N => k_asm)); intro r₉ h₉ tk₉ t1₉ u1₉ v1₉ F₉ N₉ lr₉ l1₉; (try k_lt l1₉); (try k_sweep))))
  (k_with "call builtin:sorted" => (fail_if_success k_extra "left 20"); ((k_here; ksk_kw; ksk_show; k_dflt (refine' sortedK_range (n := 4) ?w₉F ?w₉N ?w₉hh ?w₉r ?w₉sm ?w₉n ?w₉k4 ?w₉k5 ?w₉a1 ?w₉a2 ?w₉a3 ?_; (case w₉F => k_asm); (case w₉N => k_asm); (case w₉hh => exact rfl); (case w₉r => exact range_led_is (by k_asm) (by k_mem)); (case w₉sm => exact rfl); (case w₉n => exact rfl); (case w₉k4 => decide); (case w₉k5 => decide); (case w₉a1 => ksk_a1); (case w₉a2 => (intro _; ksk_a2)); (case w₉a3 => (intro _; ksk_a3)); k_whole); intro D₉ kS₉ e₉ h₉ tk₉ vs₉ hv₉ F₉ N₉ l0₉ l1₉; obtain ⟨w0₉, w1₉, w2₉, w3₉, hv2₉⟩ := ints_of4 hv₉; clear hv₉; subst hv2₉; (try k_lt l1₉); (try k_lt2 l0₉); (try k_sweep))))
  (k_with "k_all" => (fail_if_success k_extra "left 20"); (first | exact hT | exact all_sub_ne (by assumption) (by walk_at "my suf") | exact all_ne_lt (by assumption) (by omega)))
  (k_with "call ref" => (fail_if_success k_extra "left 20"); ((k_here; kn_here; k_dflt (refine wpAny_call ?_; refine' kla_code ?w₉k1 ?w₉k2 ?w₉k3 ?w₉k4 ?w₉k5 ?w₉kA ?w₉kF ?w₉kK ?w₉k6 ?w₉k7 ?w₉k8 ?w₉k9 ?w₉kB ?_ ?w₉c2 ?w₉c3 ?w₉c4 ?w₉c5; (case w₉kA => exact rfl); (case w₉kF => exact rfl); (case w₉kK => first | exact rfl | assumption); (case w₉k1 => k_asm); (case w₉k2 => k_asm); (case w₉k3 => k_asm); (case w₉k4 => k_asm); (case w₉k5 => k_asm); (case w₉k6 => k_mem); (case w₉k7 => exact codeRec_news (by k_asm) (by k_mem) (by assumption) (by assumption)); (case w₉k8 => (first | omega | ktr_room)); (case w₉k9 => exact rfl); (case w₉c5 => decide); (case w₉kB => exact locs rfl); (case w₉c2 => exact rfl); (case w₉c3 => exact rfl); (case w₉c4 => exact rfl); k_whole; intro g₉ L₉ h₉ FG₉ F₉ N₉ B₉ X₉ T₉; (try dsimp only); (try k_lift B₉); (try k_fold)))))
  refine con_gen (fun P' hPP => ?_)
  refine' con_cells (binds := [(_, _), (_, _)]) ?ho ?hfd ?hcd ?hb ?hl ?c1 ?c2 ?c3 ?c4 ?hh; (case ho => k_dflt k_is); (case hfd => refine' fd_lit ?x1 ?x2 ?x3; (case x1 => (conv => lhs; whnf)); (case x2 => (conv => lhs; whnf)); (case x3 => (conv => lhs; whnf))); (case hcd => k_dflt k_is); (case hb => exact rfl); (case hl => exact rfl); (case c1 => exact rfl); (case c2 => exact rfl); (case c3 => exact rfl); (case c4 => decide +kernel)
  intro loose mean mg mb dp un gd outer A₀ base g L h₁ s₀ tk cells Q₀ hq₀ hn₀ B F X N Y l1 T hd hu
  (try simp only [List.cons_append, List.nil_append, List.append_nil] at l1)
  have l0 := l1
  (replace l1 := allLt_of l1)
  (try simp only [AllLt, and_true] at l1)
  (try dsimp only at Y)
  k_cells Y
  (try simp only [List.cons_append, List.nil_append, List.append_nil] at N)
  (try dsimp only [List.reverse, List.reverseAux] at F)
  (try dsimp only)
  (try k_fold)
  (first | (refine letAE ?_; intro A9 E9) | skip)
  have lR : ∀ p ∈ R, p.1 < L := fun p hp => l0 p (.tail _ hp)
  have hC : CodeHd g 246 242 := codeHd_of_K X (by kernel_rfl)
  repeat' (first | (k_unfold; (try dsimp only)) | (with_reducible refine hideQ ?_; intro Q9 hQ9) | (with_reducible refine hideQ2 ?_; intro Q9 hQ9) | (with_reducible refine hQ9 _ _ ?_; try clear hQ9 Q9) | walk1 | (dsimp only; walk1) | (dsimp only; k_unfold; (try dsimp only)) | fail "no step")
  refine' retN hq₀ [(D₉, _), (242, tabObj #[rawInt 193, rawInt 32, .ref cod₉]), (cod₉, ocd₉)] (by k_asm) (by k_asm) ?n1 ?n2 ?n3 (hPP _ _ (.mk _ _ _ _ _ _ _ (out_ints hp₉ (srt_names _)) ?p0 ?p1))
  (case p0 => assumption)
  (case p1 => assumption)
  (case n1 => (first | walk_at "my sub" | fail "my sub"))
  (case n2 => (first | walk_at "my sub" | fail "my sub"))
  (case n3 => exact all_cons (all_sub_ne (by assumption) (by (first | walk_at "my suf" | fail "my suf"))) (all_cons (hT) (all_cons (all_sub_ne (by assumption) (by (first | walk_at "my suf" | fail "my suf"))) (all_nil))))
end

end
section
theorem codeAmong_two (c : Addr) : codeAmong { line := 193, col := 32, endLine := 193, endCol := 62 } [rawInt 193, rawInt 32, .ref c] = some (.ref c) := by simp [codeAmong, rawInt]
section
theorem order2_con {w : World} {R : Led} {wl e0 e1 e2 e3 : Addr} {a0 a1 a2 b0 b1 b2 c0 c1 c2 d0 d1 d2 i : Int} {n : Nat} {t : Tok} {ta0 ta1 ta2 ta3 tb0 tb1 tb2 tb3 tc0 tc1 tc2 tc3 td0 td1 td2 td3 : Tok} {col : Int → Int}
  (hw : (wl, listOf #[.ref e0, .ref e1, .ref e2, .ref e3] n) ∈ R) (h0 : (e0, tupObj #[.int a0 ta0, .int a1 ta1, .int a2 ta2, .int 0 ta3]) ∈ R) (h1 : (e1, tupObj #[.int b0 tb0, .int b1 tb1, .int b2 tb2, .int 1 tb3]) ∈ R)
  (h2 : (e2, tupObj #[.int c0 tc0, .int c1 tc1, .int c2 tc2, .int 2 tc3]) ∈ R) (h3 : (e3, tupObj #[.int d0 td0, .int d1 td1, .int d2 td2, .int 3 td3]) ∈ R) {cod : Addr} {ocd : Obj} {fvs : Array Value} {tq : Tok} (hP : ((242 : Addr), tabObj #[rawInt 193, rawInt 32, .ref cod]) ∈ R) (hO : (cod, ocd) ∈ R) (hO1 : ocd.data = .fields fvs) (hO2 : fvs[1]? = some (.str (Str.ofString "_law_order.<locals>.<lambda>") tq)) (hi : i = 0 ∨ i = 1 ∨ i = 2)
  (g0 : [a0, a1, a2, 0].getD i.toNat 0 = col 0) (g1 : [b0, b1, b2, 1].getD i.toNat 0 = col 1) (g2 : [c0, c1, c2, 2].getD i.toNat 0 = col 2) (g3 : [d0, d1, d2, 3].getD i.toNat 0 = col 3) :
  Con w 2 247 [.ref wl, .int i t] [] R (PInts (srt (rks col))) := by
  have i0 : 0 ≤ i := by rcases hi with rfl | rfl | rfl <;> decide
  have i4 : i < 4 := by rcases hi with rfl | rfl | rfl <;> decide
  have i63 : i < 2 ^ 63 := Int.lt_trans i4 (by decide)
  (k_with "left 20" => skip)
  (k_with "left 19" => skip)
  (k_with "k_lt" => (fail_if_success k_extra "left 21"); (skip))
  (k_with "eval Lambda" => (fail_if_success k_extra "left 22"); ((k_here; kn_here; k_dflt (refine' kla_eval ?w₉d0 ?_; (case w₉d0 => exact rfl)); k_dflt (refine' kla_hit ?w₉F ?w₉N ?w₉T ?w₉C ?w₉cd ?w₉mem ?w₉t ?w₉n ?w₉cl ?_; (case w₉F => k_asm); (case w₉N => k_asm); (case w₉T => k_asm); (case w₉cd => exact rfl); (case w₉C => kn_code); (case w₉mem => k_mem); (case w₉t => kn_triples); (case w₉n => exact codeAmong_two cod); (case w₉cl => exact rfl); k_whole); intro lam₉ ctv₉ h₉ tk₉ F₉ N₉ la₉; (try dsimp only at N₉); (try k_lt la₉))))
  (k_with "KasFin" => (fail_if_success k_extra "left 22"); ((k_dflt (refine' KasFin.intro ?w₉F ?w₉N ?w₉U ?_; (case w₉F => k_asm); (case w₉N => k_asm); (case w₉U => k_updF); k_whole); intro h₉ c₉ F₉ N₉; (try dsimp only at N₉); (try k_sweep))))
  (k_with "kasWp" => (fail_if_success k_extra "left 22"); ((k_dflt (refine' sort4_tups (col := col) ?w₉hb ?w₉N ?w₉m0 ?w₉m1 ?w₉m2 ?w₉m3 ?w₉e0 ?w₉e1 ?w₉e2 ?w₉e3 ?_; (case w₉hb => exact rfl); (case w₉N => k_asm); (case w₉m0 => k_mem); (case w₉m1 => k_mem); (case w₉m2 => k_mem); (case w₉m3 => k_mem); (case w₉e0 => exact g0); (case w₉e1 => exact g1); (case w₉e2 => exact g2); (case w₉e3 => exact g3)); intro p₉ hp₉; (try dsimp only))))
  (k_with "call type:range" => (fail_if_success k_extra "left 22"); ((k_here; k_dflt (refine' range_led ?w₉F ?w₉N ?_; (case w₉F => k_asm); (case w₉N => k_asm)); intro r₉ h₉ tk₉ t1₉ u1₉ v1₉ F₉ N₉ lr₉ l1₉; (try k_lt l1₉); (try k_sweep))))
  (k_with "call builtin:sorted" => (fail_if_success k_extra "left 22"); ((k_here; ksk_kw; ksk_show; k_dflt (refine' sortedK_range (n := 4) ?w₉F ?w₉N ?w₉hh ?w₉r ?w₉sm ?w₉n ?w₉k4 ?w₉k5 ?w₉a1 ?w₉a2 ?w₉a3 ?_; (case w₉F => k_asm); (case w₉N => k_asm); (case w₉hh => exact rfl); (case w₉r => exact range_led_is (by k_asm) (by k_mem)); (case w₉sm => exact rfl); (case w₉n => exact rfl); (case w₉k4 => decide); (case w₉k5 => decide); (case w₉a1 => ksk_a1); (case w₉a2 => (intro _; ksk_a2)); (case w₉a3 => (intro _; ksk_a3)); k_whole); intro D₉ kS₉ e₉ h₉ tk₉ vs₉ hv₉ F₉ N₉ l0₉ l1₉; obtain ⟨w0₉, w1₉, w2₉, w3₉, hv2₉⟩ := ints_of4 hv₉; clear hv₉; subst hv2₉; (try k_lt l1₉); (try k_lt2 l0₉); (try k_sweep))))
  (k_with "k_all" => (fail_if_success k_extra "left 22"); (first | exact all_sub_ne (by assumption) (by walk_at "my suf") | exact all_ne_lt (by assumption) (by omega)))
  (k_with "call ref" => (fail_if_success k_extra "left 22"); ((k_here; kn_here; k_dflt (refine wpAny_call ?_; refine' kla_code ?w₉k1 ?w₉k2 ?w₉k3 ?w₉k4 ?w₉k5 ?w₉kA ?w₉kF ?w₉kK ?w₉k6 ?w₉k7 ?w₉k8 ?w₉k9 ?w₉kB ?_ ?w₉c2 ?w₉c3 ?w₉c4 ?w₉c5; (case w₉kA => exact rfl); (case w₉kF => exact rfl); (case w₉kK => first | exact rfl | assumption); (case w₉k1 => k_asm); (case w₉k2 => k_asm); (case w₉k3 => k_asm); (case w₉k4 => k_asm); (case w₉k5 => k_asm); (case w₉k6 => k_mem); (case w₉k7 => exact codeRec_news (by k_asm) (by k_mem) hO1 hO2); (case w₉k8 => (first | omega | ktr_room)); (case w₉k9 => exact rfl); (case w₉c5 => decide); (case w₉kB => exact locs rfl); (case w₉c2 => exact rfl); (case w₉c3 => exact rfl); (case w₉c4 => exact rfl); k_whole; intro g₉ L₉ h₉ FG₉ F₉ N₉ B₉ X₉ T₉; (try dsimp only); (try k_lift B₉); (try k_fold)))))
  refine con_gen (fun P' hPP => ?_)
  refine' con_cells (binds := [(_, _), (_, _)]) ?ho ?hfd ?hcd ?hb ?hl ?c1 ?c2 ?c3 ?c4 ?hh; (case ho => k_dflt k_is); (case hfd => refine' fd_lit ?x1 ?x2 ?x3; (case x1 => (conv => lhs; whnf)); (case x2 => (conv => lhs; whnf)); (case x3 => (conv => lhs; whnf))); (case hcd => k_dflt k_is); (case hb => exact rfl); (case hl => exact rfl); (case c1 => exact rfl); (case c2 => exact rfl); (case c3 => exact rfl); (case c4 => decide +kernel)
  intro loose mean mg mb dp un gd outer A₀ base g L h₁ s₀ tk cells Q₀ hq₀ hn₀ B F X N Y l1 T hd hu
  (try simp only [List.cons_append, List.nil_append, List.append_nil] at l1)
  have l0 := l1
  (replace l1 := allLt_of l1)
  (try simp only [AllLt, and_true] at l1)
  (try dsimp only at Y)
  k_cells Y
  (try simp only [List.cons_append, List.nil_append, List.append_nil] at N)
  (try dsimp only [List.reverse, List.reverseAux] at F)
  (try dsimp only)
  (try k_fold)
  (first | (refine letAE ?_; intro A9 E9) | skip)
  have lR : ∀ p ∈ R, p.1 < L := l0
  have hC : CodeHd g 246 242 := codeHd_of_K X (by kernel_rfl)
  repeat' (first | (k_unfold; (try dsimp only)) | (with_reducible refine hideQ ?_; intro Q9 hQ9) | (with_reducible refine hideQ2 ?_; intro Q9 hQ9) | (with_reducible refine hQ9 _ _ ?_; try clear hQ9 Q9) | walk1 | (dsimp only; walk1) | (dsimp only; k_unfold; (try dsimp only)) | fail "no step")
  exact ret1 hq₀ (by k_asm) (by k_asm) (by (first | walk_at "my suf" | fail "my suf")) (by first | k_mem | fail "k_mem") (all_sub_ne (by assumption) (by (first | walk_at "my suf" | fail "my suf"))) (hPP _ _ (.mk _ _ _ (out_ints hp₉ (srt_names _))))
end

end
section
noncomputable def leadS (a b c : Int) : Str := Txt.mul (Str.ofString " ") a ++ Txt.mul (Str.ofString "\t") b ++ Txt.mul (Str.ofString " ") c ++ Str.ofString "x"
theorem strLen (x y : Str) : (x ++ y).length = x.length + y.length := Array.size_append ..
theorem addLen {x y : Str} (h : x.length ≤ 20) (h' : y.length ≤ 20) : x.length + y.length ≤ sizeLine := by rw [sizeLine_eq]; omega
section
theorem lead_con {w : World} {R : Led} {d : Int} {t : Tok} :
  Con w 1 178 [.int d t] [] R (PStr (leadS (d.fmod 3) (1 + (d.fdiv 3).fmod 3) ((d.fdiv 9).fmod 3))) := by
  have r1 := Int.fmod_nonneg_of_pos (d) (show (0 : Int) < 3 by decide)
  have q1 := Int.fmod_lt_of_pos d (show (0 : Int) < 3 by decide)
  have r2 := Int.fmod_nonneg_of_pos (d.fdiv 3) (show (0 : Int) < 3 by decide)
  have q2 := Int.fmod_lt_of_pos (d.fdiv 3) (show (0 : Int) < 3 by decide)
  have r3 := Int.fmod_nonneg_of_pos (d.fdiv 9) (show (0 : Int) < 3 by decide)
  have q3 := Int.fmod_lt_of_pos (d.fdiv 9) (show (0 : Int) < 3 by decide)
  have z1 := len_mul_one (y := Str.ofString " ") (c := 32) (n := d.fmod 3) (N := 3) (by decide +kernel) (by omega)
  have z2 := len_mul_one (y := Str.ofString "\t") (c := 9) (n := 1 + (d.fdiv 3).fmod 3) (N := 3) (by decide +kernel) (by omega)
  have z3 := len_mul_one (y := Str.ofString " ") (c := 32) (n := (d.fdiv 9).fmod 3) (N := 3) (by decide +kernel) (by omega)
  have z4 : (Str.ofString "x").length = 1 := by decide +kernel
  (k_with "left 22" => skip)
  (k_with "left 21" => skip)
  (k_with "binaryOp Add str str" => (fail_if_success k_extra "left 24"); ((k_here; (with_reducible show wpAny _ _ (binaryOp Operator.Add (Value.str _ _) (Value.str _ _)) _ _ _); (refine' PyProof.Rows.add_str ?_ ?w₉sz; (case w₉sz => (refine addLen ?_ ?_) <;> (simp only [strLen]; omega)); k_whole); intro t₉ k₉)))
  refine con_gen (fun P' hPP => ?_)
  refine' con_plain (binds := [(_, _)]) ?ho ?hfd ?hcd ?hb ?hl ?c1 ?c2 ?c3 ?c4 ?hh; (case ho => k_dflt k_is); (case hfd => refine' fd_lit ?x1 ?x2 ?x3; (case x1 => (conv => lhs; whnf)); (case x2 => (conv => lhs; whnf)); (case x3 => (conv => lhs; whnf))); (case hcd => k_dflt k_is); (case hb => exact rfl); (case hl => exact locs rfl); (case c1 => exact rfl); (case c2 => exact rfl); (case c3 => exact rfl); (case c4 => decide)
  intro loose mean mg mb dp un gd outer A₀ base g L h₁ s₀ tk Q₀ hq₀ hn₀ B F X N T hd hu
  (try simp only [List.cons_append, List.nil_append, List.append_nil] at N)
  (try dsimp only [List.reverse, List.reverseAux] at F)
  (try dsimp only)
  (try k_fold)
  (first | (refine letAE ?_; intro A9 E9) | skip)
  repeat' (first | (k_unfold; (try dsimp only)) | (with_reducible refine hideQ ?_; intro Q9 hQ9) | (with_reducible refine hideQ2 ?_; intro Q9 hQ9) | (with_reducible refine hQ9 _ _ ?_; try clear hQ9 Q9) | walk1 | (dsimp only; walk1) | (dsimp only; k_unfold; (try dsimp only)) | fail "no step")
  exact ret0 hq₀ (by k_asm) (by k_asm) (by (first | walk_at "my suf" | fail "my suf")) (hPP _ _ (.mk _))
end

end
section
section
variable {w : World} {A : Around} {E : Value → Shared → Prop} {h₀ : Heap} {env : Env} {body : List Stmt} {Q : Flow → Shared → Prop} {s : Shared} {R : Led} {m0 : Str → Option Value} {β : Type}
theorem str_loop {x : Str} {tx : Str} {t : Tok} {l : List Str} (P : Str → Prop) (nxt : β → Str → β) (J : β → (Str → Option Value) → Prop) (b : β) (hx : tx.cps.toList.map (fun c => (⟨#[c]⟩ : Str)) = l) (hP : ∀ c ∈ l, P c) (hh : A.handled = none) (F : Fr h₀ env.locals s.heap m0) (N : News h₀ env.locals s.heap R) (hJ : J b m0)
    (step : ∀ I, (∀ p ∈ R, p.1 < I) → ∀ (c : Str) (b : β) m, P c → J b m → ∀ (J' : (Str → Option Value) → Prop) (Q' : Flow → Shared → Prop), (∀ m', J (nxt b c) m' → J' m') → (∀ v s, Q (.ret v) s → Q' (.ret v) s) → ∀ u o' h tk, Fr h₀ env.locals h (fun y => if y = x then some (.str c u) else m y) → News h₀ env.locals h ((I, o') :: R) →
      wpAny (model PP w) A (execs body env) (TurnPost h₀ env.locals [(I, o')] R { s with heap := h, toks := tk } J' Q') E { s with heap := h, toks := tk })
    (fin : ∀ m, J (l.foldl nxt b) m → ∀ h tk, Fr h₀ env.locals h m → News h₀ env.locals h R → Q .next { s with heap := h, toks := tk }) :
    wpAny (model PP w) A (pyIter (.str tx t)) (fun it s₂ => LoopAtV PP w A h₀ env x body Q E it s₂) E s := by
  refine iter_strUnr hh F N hx fun I hI => ?_
  clear hx
  have : ∀ (l : List Str) (b : β) m, (∀ c ∈ l, P c) → J b m → (∀ m, J (l.foldl nxt b) m → ∀ h tk, Fr h₀ env.locals h m → News h₀ env.locals h R → Q .next { s with heap := h, toks := tk }) → StrRest PP w A E h₀ env x body Q s I l m R := by
    intro l
    induction l with
    | nil => intro b m _ hJ fin h tk F N; exact fin m hJ h tk F N
    | cons c r ih =>
      intro b m hP hJ fin u it h tk F N
      refine wpAny_mono (step I hI c b m (hP c (.head _)) hJ (J (nxt b c)) Q (fun _ z => z) (fun _ _ z => z) u it h tk F N) (fun f s₃ h₃ => ?_) fun _ _ e => e
      have up : TurnEnd h₀ env.locals [(I, it)] R { s with heap := h, toks := tk } (J (nxt b c)) s₃ → UnrEnd h₀ env.locals { s with heap := h, toks := tk } I it (StrRest PP w A E h₀ env x body Q s I r) s₃ := by
        rintro ⟨h', tk', m', all, e', F', N', hi, hR, hj⟩
        refine ⟨h', tk', m', R, e', F', fun p hp => ?_, fun p hp => Nat.ne_of_lt (hI p hp), ih (nxt b c) m' (fun q hq => hP q (.tail _ hq)) hj fin⟩
        rcases List.mem_cons.mp hp with rfl | hp
        · exact N' _ (hi _ (List.mem_singleton.mpr rfl))
        · exact N' _ (hR _ hp)
      cases f with
      | ret v => exact h₃
      | brk => exact h₃
      | next => exact up h₃
      | cont => exact up h₃
  exact this l b m0 hP hJ fin
theorem str_loopA {x : Str} {tx : Str} {t : Tok} {l : List Str} (P : Str → Prop) (nxt : β → Str → β) (K : β → (Str → Option Value) → Prop) (b : β) (ns : List Str) (hx : tx.cps.toList.map (fun c => (⟨#[c]⟩ : Str)) = l) (hP : ∀ c ∈ l, P c) (hh : A.handled = none) (F : Fr h₀ env.locals s.heap m0) (N : News h₀ env.locals s.heap R) (hJ : K b m0)
    (step : ∀ I, (∀ p ∈ R, p.1 < I) → ∀ (c : Str) (b : β) m, P c → K b m → Agr ns m m0 → ∀ (J' : (Str → Option Value) → Prop) (Q' : Flow → Shared → Prop), (∀ m', K (nxt b c) m' → Agr ns m' m0 → J' m') → (∀ v s, Q (.ret v) s → Q' (.ret v) s) → ∀ u o' h tk, Fr h₀ env.locals h (fun y => if y = x then some (.str c u) else m y) → News h₀ env.locals h ((I, o') :: R) →
      wpAny (model PP w) A (execs body env) (TurnPost h₀ env.locals [(I, o')] R { s with heap := h, toks := tk } J' Q') E { s with heap := h, toks := tk })
    (fin : ∀ m, K (l.foldl nxt b) m → Agr ns m m0 → ∀ h tk, Fr h₀ env.locals h m → News h₀ env.locals h R → Q .next { s with heap := h, toks := tk }) :
    wpAny (model PP w) A (pyIter (.str tx t)) (fun it s₂ => LoopAtV PP w A h₀ env x body Q E it s₂) E s :=
  str_loop P nxt (fun b m => K b m ∧ Agr ns m m0) b hx hP hh F N ⟨hJ, Agr.refl⟩
    (fun I hI c b m hc hj J' Q' hJ' hQ' => step I hI c b m hc hj.1 hj.2 J' Q' (fun m' k a => hJ' m' ⟨k, a⟩) hQ')
    (fun m hj => fin m hj.1 hj.2)
end

end
section
noncomputable def colStep (size : Int) (c : Int) (ch : Str) : Int := if ch = Str.ofString " " then c + 1 else if ch = Str.ofString "\t" then c + (size - c.fmod size) else c
theorem loadX_L {M : Model} {A : Around} {E : Value → Shared → Prop} {s : Shared} {h₀ : Heap} {env : Env} {x : Str} {v : Value} {m : Str → Option Value} {Q : Value → Shared → Prop} (F : Fr h₀ env.locals s.heap m) (hv : m x = some v) (h : Q v s)
    (hk : env.scope.kind = .function) (hl : env.kindOf x = some .local) : wpAny M A (loadName env x) Q E s := wpAny_loadName_local hk hl F.ns hv h
section
theorem column_con {w : World} {R : Led} {x : Str} {size : Int} {t ts : Tok} {l : List Str} (hx : x.cps.toList.map (fun c => (⟨#[c]⟩ : Str)) = l) (hl : ∀ c ∈ l, c = Str.ofString " " ∨ c = Str.ofString "\t" ∨ c = Str.ofString "x") (hs : 0 < size) :
  Con w 1 185 [.str x t, .int size ts] [] R (PInt (l.foldl (colStep size) 0)) := by
  have hs0 : size ≠ 0 := by omega
  (k_with "left 24" => skip)
  (k_with "left 23" => skip)
  (k_with "left 26" => skip)
  (k_with "left 25" => skip)
  (k_with "loadName" => (fail_if_success k_extra "left 28"); ((k_here; k_dflt (refine' loadX_L ?w₉F ?w₉v ?_ ?w₉a ?w₉b; (case w₉F => k_asm); (case w₉a => rfl); (case w₉b => rfl); (case w₉v => first | exact rfl | (with_reducible assumption) | assumption); k_whole))))
  (k_with "exec For Name Name cons nil" => (fail_if_success k_extra "left 28"); ((k_here; (rename Fr _ _ _ _ => lF₉); (with_unfolding_all refine' For_invVF lF₉ ?w₉k1 ?w₉k2 ?_; (case w₉k1 => exact rfl); (case w₉k2 => exact rfl); k_whole))))
  refine con_gen (fun P' hPP => ?_)
  refine' con_plain (binds := [(_, _), (_, _)]) ?ho ?hfd ?hcd ?hb ?hl ?c1 ?c2 ?c3 ?c4 ?hh; (case ho => k_dflt k_is); (case hfd => refine' fd_lit ?x1 ?x2 ?x3; (case x1 => (conv => lhs; whnf)); (case x2 => (conv => lhs; whnf)); (case x3 => (conv => lhs; whnf))); (case hcd => k_dflt k_is); (case hb => exact rfl); (case hl => exact locs rfl); (case c1 => exact rfl); (case c2 => exact rfl); (case c3 => exact rfl); (case c4 => decide)
  intro loose mean mg mb dp un gd outer A₀ base g L h₁ s₀ tk Q₀ hq₀ hn₀ B F X N T hd hu
  (try simp only [List.cons_append, List.nil_append, List.append_nil] at N)
  (try dsimp only [List.reverse, List.reverseAux] at F)
  (try dsimp only)
  (try k_fold)
  (first | (refine letAE ?_; intro A9 E9) | skip)
  repeat' (first | (k_unfold; (try dsimp only)) | (with_reducible refine hideQ ?_; intro Q9 hQ9) | (with_reducible refine hideQ2 ?_; intro Q9 hQ9) | (with_reducible refine hQ9 _ _ ?_; try clear hQ9 Q9) | walk1 | (dsimp only; walk1) | (dsimp only; k_unfold; (try dsimp only)) | fail "no step")
  refine str_loopA (fun c => c = Str.ofString " " ∨ c = Str.ofString "\t" ∨ c = Str.ofString "x") (colStep size) (fun b m => ∃ tc, m (Str.ofString "column") = some (.int b tc)) 0 ["column", "sign"] hx hl rfl (by k_asm) (by k_asm) ⟨_, rfl⟩ ?step ?fin
  (case step =>
    intro I hI c b m hc hm hA J' Q' hJ' hQ' u o' h tk2 F2 N2
    obtain ⟨tc, hm⟩ := hm
    have mS : m (Str.ofString "size") = some (.int size ts) := hA.get rfl rfl
    clear hx
    have e1 : colStep size b (Str.ofString " ") = b + 1 := by unfold colStep; rw [if_pos rfl]
    have e2 : colStep size b (Str.ofString "\t") = b + (size - b.fmod size) := by unfold colStep; rw [if_neg (by decide +kernel), if_pos rfl]
    have e3 : colStep size b (Str.ofString "x") = b := by unfold colStep; rw [if_neg (by decide +kernel), if_neg (by decide +kernel)]
    rcases hc with rfl | rfl | rfl
    · rw [e1] at hJ'
      clear e1 e2 e3
      (try dsimp only)
      repeat' (first | (k_unfold; (try dsimp only)) | (with_reducible refine hideQ ?_; intro Q9 hQ9) | (with_reducible refine hideQ2 ?_; intro Q9 hQ9) | (with_reducible refine hQ9 _ _ ?_; try clear hQ9 Q9) | walk1 | (dsimp only; walk1) | (dsimp only; k_unfold; (try dsimp only)) | fail "no step")
      exact turn_end' (by k_asm) (by k_asm) (by (first | walk_at "my sub" | fail "my sub")) (by (first | walk_at "my suf" | fail "my suf")) (hJ' _ ⟨_, by first | rfl | exact hm⟩ (by repeat (first | exact hA | refine Agr.set ?_ rfl)))
    · rw [e2] at hJ'
      clear e1 e2 e3
      (try dsimp only)
      repeat' (first | (k_unfold; (try dsimp only)) | (with_reducible refine hideQ ?_; intro Q9 hQ9) | (with_reducible refine hideQ2 ?_; intro Q9 hQ9) | (with_reducible refine hQ9 _ _ ?_; try clear hQ9 Q9) | walk1 | (dsimp only; walk1) | (dsimp only; k_unfold; (try dsimp only)) | fail "no step")
      exact turn_end' (by k_asm) (by k_asm) (by (first | walk_at "my sub" | fail "my sub")) (by (first | walk_at "my suf" | fail "my suf")) (hJ' _ ⟨_, by first | rfl | exact hm⟩ (by repeat (first | exact hA | refine Agr.set ?_ rfl)))
    · rw [e3] at hJ'
      clear e1 e2 e3
      (try dsimp only)
      repeat' (first | (k_unfold; (try dsimp only)) | (with_reducible refine hideQ ?_; intro Q9 hQ9) | (with_reducible refine hideQ2 ?_; intro Q9 hQ9) | (with_reducible refine hQ9 _ _ ?_; try clear hQ9 Q9) | walk1 | (dsimp only; walk1) | (dsimp only; k_unfold; (try dsimp only)) | fail "no step")
      exact turn_end' (by k_asm) (by k_asm) (by (first | walk_at "my sub" | fail "my sub")) (by (first | walk_at "my suf" | fail "my suf")) (hJ' _ ⟨_, by first | rfl | exact hm⟩ (by repeat (first | exact hA | refine Agr.set ?_ rfl))))
  (case fin =>
    intro m hm hA h tk2 F2 N2
    obtain ⟨tc, hm⟩ := hm
    (try dsimp only)
    repeat' (first | (k_unfold; (try dsimp only)) | (with_reducible refine hideQ ?_; intro Q9 hQ9) | (with_reducible refine hideQ2 ?_; intro Q9 hQ9) | (with_reducible refine hQ9 _ _ ?_; try clear hQ9 Q9) | walk1 | (dsimp only; walk1) | (dsimp only; k_unfold; (try dsimp only)) | fail "no step")
    exact ret0 hq₀ (by k_asm) (by k_asm) (by (first | walk_at "my suf" | fail "my suf")) (hPP _ _ (.mk _)))
end

end
section
noncomputable def leadL (a b c : Nat) : List Str := List.replicate a (Str.ofString " ") ++ List.replicate b (Str.ofString "\t") ++ List.replicate c (Str.ofString " ") ++ [Str.ofString "x"]
theorem lead_signs (a b c : Int) : (leadS a b c).cps.toList.map (fun c => (⟨#[c]⟩ : Str)) = leadL a.toNat b.toNat c.toNat := by
  have h1 : Str.ofString " " = ⟨#[32]⟩ := by decide +kernel
  have h2 : Str.ofString "\t" = ⟨#[9]⟩ := by decide +kernel
  have h3 : Str.ofString "x" = ⟨#[120]⟩ := by decide +kernel
  have ap : ∀ x y : Str, (x ++ y).cps = x.cps ++ y.cps := fun _ _ => rfl
  unfold leadS leadL
  rw [h1, h2, h3]
  simp only [ap, Array.toList_append, List.map_append, mul_one_list, List.map_replicate, List.map_cons, List.map_nil]
theorem lead_kinds (a b c : Nat) : ∀ s ∈ leadL a b c, s = Str.ofString " " ∨ s = Str.ofString "\t" ∨ s = Str.ofString "x" := by
  intro s hs
  unfold leadL at hs
  simp only [List.mem_append, List.mem_replicate, List.mem_cons, List.not_mem_nil, or_false] at hs
  rcases hs with ((h | h) | h) | h
  · exact .inl h.2
  · exact .inr (.inl h.2)
  · exact .inl h.2
  · exact .inr (.inr h)
noncomputable def colOf (size : Int) (a b c : Nat) : Int := (leadL a b c).foldl (colStep size) 0

end
section
inductive WsAt (R : Led) (o : Addr) (cs : List Int) (b n nt : Int) (simple : Bool) : Prop
  | mk (dx nm cn : Addr) (hs : Nat → Int) (k : Nat → Tok) (vs : List Value) (tb tn tt : Tok) (raw : Str) (tr : Tok) (m1 : (o, instObj 153 dx) ∈ R) (m2 : (dx, dictOf [⟨hs 0, .str (Str.ofString "raw") (k 0), .str raw tr⟩, ⟨hs 1, .str (Str.ofString "n") (k 1), .int n tn⟩, ⟨hs 2, .str (Str.ofString "nt") (k 2), .int nt tt⟩, ⟨hs 3, .str (Str.ofString "norm") (k 3), .ref nm⟩, ⟨hs 4, .str (Str.ofString "is_simple") (k 4), .bool simple⟩] 5) ∈ R)
    (m3 : (nm, tupObj #[.ref cn, .int b tb]) ∈ R) (m4 : (cn, tupObj (List.toArray vs)) ∈ R) (hi : IntsAre vs cs) (hl : vs.length ≤ 10) : WsAt R o cs b n nt simple
theorem WsAt.mono {R R' : Led} {o : Addr} {cs : List Int} {b n nt : Int} {s : Bool} (h : WsAt R o cs b n nt s) (k : ∀ p ∈ R, p ∈ R') : WsAt R' o cs b n nt s := by
    obtain ⟨dx, nm, cn, hs, kk, vs, tb, tn, tt, raw, tr, m1, m2, m3, m4, hi, hl⟩ := h
    exact ⟨dx, nm, cn, hs, kk, vs, tb, tn, tt, raw, tr, k _ m1, k _ m2, k _ m3, k _ m4, hi, hl⟩
theorem len_tupI {prog : Program} {w : World} {A : Around} {E : Value → Shared → Prop} {s : Shared} {h₀ : Heap} {L t : Addr} {news : Led} {vs : List Value} {cs : List Int} {Q : Value → Shared → Prop} (N : News h₀ L s.heap news) (hm : (t, tupObj (List.toArray vs)) ∈ news) (hi : IntsAre vs cs) (hl : vs.length ≤ 10)
    (h : ∀ t tk, Q (.int (cs.length : Int) t) { s with toks := tk }) : wpAny (model prog w) A (call (.builtin "len") [.ref t]) Q E s := by
  refine len_tuple ⟨_, (N _ hm).1, rfl, _, rfl⟩ (by rw [List.size_toArray]; omega) ?_
  rw [List.size_toArray, hi.length]
  exact h _ _

section
theorem longest_con {w : World} {R : Led} {o : Addr} {cs : List Int} {b n nt : Int} {simple : Bool} (h : WsAt R o cs b n nt simple) :
  Con w 1 115 [.ref o] [] R (PInt (if b > (cs.length : Int) - 1 then b else (cs.length : Int) - 1)) := by
  obtain ⟨dx, nm, cn, hs, k, vs, tb, tn, tt, raw, tr, m1, m2, m3, m4, hi, hl⟩ := h
  (k_with "left 28" => skip)
  (k_with "left 27" => skip)
  (k_with "left 29" => skip)
  (k_with "call builtin:len" => (fail_if_success k_extra "left 31"); ((k_here; (with_reducible show wpAny _ _ (call (Value.builtin "len") [Value.ref _]) _ _ _); k_dflt (refine' len_tupI ?w₉k1 ?w₉k2 ?w₉k3 ?w₉k4 ?_; (case w₉k1 => k_asm); (case w₉k2 => k_mem); (case w₉k3 => assumption); (case w₉k4 => assumption); k_whole); intro t₉ k₉)))
  refine con_gen (fun P' hPP => ?_)
  refine' con_plain (binds := [(_, _)]) ?ho ?hfd ?hcd ?hb ?hl ?c1 ?c2 ?c3 ?c4 ?hh; (case ho => k_dflt k_is); (case hfd => refine' fd_lit ?x1 ?x2 ?x3; (case x1 => (conv => lhs; whnf)); (case x2 => (conv => lhs; whnf)); (case x3 => (conv => lhs; whnf))); (case hcd => k_dflt k_is); (case hb => exact rfl); (case hl => exact locs rfl); (case c1 => exact rfl); (case c2 => exact rfl); (case c3 => exact rfl); (case c4 => decide)
  intro loose mean mg mb dp un gd outer A₀ base g L h₁ s₀ tk Q₀ hq₀ hn₀ B F X N T hd hu
  (try simp only [List.cons_append, List.nil_append, List.append_nil] at N)
  (try dsimp only [List.reverse, List.reverseAux] at F)
  (try dsimp only)
  (try k_fold)
  (first | (refine letAE ?_; intro A9 E9) | skip)
  repeat' (first | (k_unfold; (try dsimp only)) | (with_reducible refine hideQ ?_; intro Q9 hQ9) | (with_reducible refine hideQ2 ?_; intro Q9 hQ9) | (with_reducible refine hQ9 _ _ ?_; try clear hQ9 Q9) | walk1 | (dsimp only; walk1) | (dsimp only; k_unfold; (try dsimp only)) | fail "no step")
  exact ret0 hq₀ (by k_asm) (by k_asm) (by (first | walk_at "my suf" | fail "my suf")) (hPP _ _ (.mk _))
end

end
section
section
variable {w : World} {A : Around} {E : Value → Shared → Prop} {h₀ : Heap} {env : Env} {body : List Stmt} {Q : Flow → Shared → Prop} {s : Shared} {R : Led} {m0 : Str → Option Value}
theorem range_loopA {x : Str} {r : Addr} {a₀ b₀ : Int} {t₀ u₀ v₀ : Tok} {n : Nat} (K : Nat → (Str → Option Value) → Prop) (ns : List Str) (hh : A.handled = none) (hr : IsRange s.heap r a₀ b₀ 1 t₀ u₀ v₀) (hsmall : Builtin.Range.small a₀ b₀ 1 = true) (hn : Builtin.Range.rangeSize a₀ b₀ 1 = (n : Int)) (F : Fr h₀ env.locals s.heap m0) (N : News h₀ env.locals s.heap R) (hJ : K 0 m0)
    (step : ∀ I, (∀ p ∈ R, p.1 < I) → ∀ i m, i < n → K i m → Agr ns m m0 → ∀ (J' : (Str → Option Value) → Prop) (Q' : Flow → Shared → Prop), (∀ m', K (i + 1) m' → Agr ns m' m0 → J' m') → (∀ v s, Q (.ret v) s → Q' (.ret v) s) → ∀ t o' h tk, Fr h₀ env.locals h (fun y => if y = x then some (.int (a₀ + (i : Int)) t) else m y) → News h₀ env.locals h ((I, o') :: R) →
      wpAny (model PP w) A (execs body env) (TurnPost h₀ env.locals [(I, o')] R { s with heap := h, toks := tk } J' Q') E { s with heap := h, toks := tk })
    (fin : ∀ m, K n m → Agr ns m m0 → ∀ h tk, Fr h₀ env.locals h m → News h₀ env.locals h R → Q .next { s with heap := h, toks := tk }) :
    wpAny (model PP w) A (pyIter (.ref r)) (fun it s₂ => LoopAtV PP w A h₀ env x body Q E it s₂) E s :=
  range_loop (fun i m => K i m ∧ Agr ns m m0) hh hr hsmall hn F N ⟨hJ, Agr.refl⟩
    (fun I hI i m hin hj J' Q' hJ' hQ' => step I hI i m hin hj.1 hj.2 J' Q' (fun m' k a => hJ' m' ⟨k, a⟩) hQ')
    (fun m hj => fin m hj.1 hj.2)
end
noncomputable def ilOf (ts : Int) (cs : List Int) : Nat → Int
  | 0 => 0
  | i + 1 => ilOf ts cs i + (ts + (i : Int)).fdiv ts * cs.getD (ts + (i : Int)).toNat 0

section
theorem indent_con {w : World} {R : Led} {o : Addr} {cs : List Int} {b n nt ts : Int} {tz : Tok} {simple : Bool} (h : WsAt R o cs b n nt simple) (hts : 1 ≤ ts ∧ ts < 20) :
  Con w 1 122 [.ref o, .int ts tz] [] R (PInt (b + ts * (ilOf ts cs ((cs.length : Int) - ts).toNat + nt))) := by
  obtain ⟨dx, nm, cn, hs, k, vs, tb, tn, tt, raw, tr, m1, m2, m3, m4, hi, hl⟩ := h
  have hcl : cs.length = vs.length := hi.length.symm
  have hz : ts ≠ 0 := by omega
  (k_with "left 31" => skip)
  (k_with "left 30" => skip)
  (k_with "left 33" => skip)
  (k_with "call builtin:len" => (fail_if_success k_extra "left 34"); ((k_here; (with_reducible show wpAny _ _ (call (Value.builtin "len") [Value.ref _]) _ _ _); k_dflt (refine' len_tupI ?w₉k1 ?w₉k2 ?w₉k3 ?w₉k4 ?_; (case w₉k1 => k_asm); (case w₉k2 => k_mem); (case w₉k3 => assumption); (case w₉k4 => assumption); k_whole); intro t₉ k₉)))
  (k_with "subscriptTail Name Name ref int" => (fail_if_success k_extra "left 34"); ((k_here; (with_reducible show wpAny _ _ (subscriptTail _ _ (Value.ref _) (Value.int _ _)) _ _ _); k_dflt (refine' itemT_sym ?w₉N ?w₉m ?w₉a ?w₉b ?w₉x ?_; (case w₉N => k_asm); (case w₉m => k_mem); (case w₉a => omega); (case w₉b => omega); (case w₉x => assumption); k_whole))))
  (k_with "loadName" => (fail_if_success k_extra "left 34"); ((k_here; k_dflt (refine' loadX_L ?w₉F ?w₉v ?_ ?w₉a ?w₉b; (case w₉F => k_asm); (case w₉a => rfl); (case w₉b => rfl); (case w₉v => first | exact rfl | (with_reducible assumption) | assumption); k_whole))))
  refine con_gen (fun P' hPP => ?_)
  refine' con_plain (binds := [(_, _), (_, _)]) ?ho ?hfd ?hcd ?hb ?hl ?c1 ?c2 ?c3 ?c4 ?hh; (case ho => k_dflt k_is); (case hfd => refine' fd_lit ?x1 ?x2 ?x3; (case x1 => (conv => lhs; whnf)); (case x2 => (conv => lhs; whnf)); (case x3 => (conv => lhs; whnf))); (case hcd => k_dflt k_is); (case hb => exact rfl); (case hl => exact locs rfl); (case c1 => exact rfl); (case c2 => exact rfl); (case c3 => exact rfl); (case c4 => decide)
  intro loose mean mg mb dp un gd outer A₀ base g L h₁ s₀ tk Q₀ hq₀ hn₀ B F X N T hd hu
  (try simp only [List.cons_append, List.nil_append, List.append_nil] at N)
  (try dsimp only [List.reverse, List.reverseAux] at F)
  (try dsimp only)
  (try k_fold)
  (first | (refine letAE ?_; intro A9 E9) | skip)
  repeat' (first | ((fail_if_success (with_reducible show wpAny _ _ (pyIter _) _ _ _)); first | (k_unfold; (try dsimp only)) | (with_reducible refine hideQ ?_; intro Q9 hQ9) | (with_reducible refine hideQ2 ?_; intro Q9 hQ9) | (with_reducible refine hQ9 _ _ ?_; try clear hQ9 Q9) | walk1 | (dsimp only; walk1) | (dsimp only; k_unfold; (try dsimp only))) | fail "no step")
  refine range_loopA (n := ((cs.length : Int) - ts).toNat) (fun i m => ∃ tc, m (Str.ofString "il") = some (.int (ilOf ts cs i) tc)) ["il", "i"] rfl (by assumption) (small_one (by omega) (by omega) (by omega) (by omega)) (by rw [rangeSize_one]; split <;> omega) (by k_asm) (by k_asm) ⟨_, rfl⟩ ?step ?fin
  (case step =>
    intro I hI i m hin hm hA J' Q' hJ' hQ' u o' h tk2 F2 N2
    obtain ⟨tc, hm⟩ := hm
    have mT : m (Str.ofString "tabsize") = some (.int ts tz) := hA.get rfl rfl
    have mC : m (Str.ofString "count") = some (.ref cn) := hA.get rfl rfl
    obtain ⟨ty, ey⟩ := ints_get hi (i := (ts + (i : Int)).toNat) (by omega)
    (try dsimp only)
    have q1 : 0 ≤ (ts + (i : Int)).fdiv ts := Int.fdiv_nonneg (by omega) (by omega)
    have q2 : (ts + (i : Int)).fdiv ts ≤ 40 := by
      rw [Int.fdiv_eq_ediv_of_nonneg _ (by omega)]
      exact Int.le_trans (Int.ediv_le_self _ (by omega)) (by omega)
    repeat' (first | (k_unfold; (try dsimp only)) | (with_reducible refine hideQ ?_; intro Q9 hQ9) | (with_reducible refine hideQ2 ?_; intro Q9 hQ9) | (with_reducible refine hQ9 _ _ ?_; try clear hQ9 Q9) | walk1 | (dsimp only; walk1) | (dsimp only; k_unfold; (try dsimp only)) | fail "no step")
    exact turn_end' (by k_asm) (by k_asm) (by (first | walk_at "my sub" | fail "my sub")) (by (first | walk_at "my suf" | fail "my suf")) (hJ' _ ⟨_, rfl⟩ (by repeat (first | exact hA | refine Agr.set ?_ rfl))))
  (case fin =>
    intro m hm hA h tk2 F2 N2
    obtain ⟨tc, hm⟩ := hm
    have mT : m (Str.ofString "tabsize") = some (.int ts tz) := hA.get rfl rfl
    have mC : m (Str.ofString "trailing") = some (.int b tb) := hA.get rfl rfl
    have mS : m (Str.ofString "self") = some (.ref o) := hA.get rfl rfl
    (try dsimp only)
    repeat' (first | (k_unfold; (try dsimp only)) | (with_reducible refine hideQ ?_; intro Q9 hQ9) | (with_reducible refine hideQ2 ?_; intro Q9 hQ9) | (with_reducible refine hQ9 _ _ ?_; try clear hQ9 Q9) | walk1 | (dsimp only; walk1) | (dsimp only; k_unfold; (try dsimp only)) | fail "no step")
    exact ret0 hq₀ (by k_asm) (by k_asm) (by (first | walk_at "my suf" | fail "my suf")) (hPP _ _ (.mk _)))
end

end
section
noncomputable def wsCs (a t : Nat) : List Int := if a = 0 then [(t : Int)] else if a = 1 then [(t : Int) - 1, 1] else [(t : Int) - 1, 0, 1]
noncomputable def indOf (size : Int) (a t c : Nat) : Int := (c : Int) + size * (ilOf size (wsCs a t) (((wsCs a t).length : Int) - size).toNat + (t : Int))
theorem col_all : ((List.range 3).all fun a => (List.range 4).all fun t => (List.range 3).all fun c => [(1 : Int), 2, 3].all fun z => t == 0 || decide (indOf z a t c = colOf z a t c)) = true := by decide +kernel
theorem col_indent {a t c : Nat} {z : Int} (ha : a < 3) (ht : 1 ≤ t ∧ t ≤ 3) (hc : c < 3) (hz : z = 1 ∨ z = 2 ∨ z = 3) : indOf z a t c = colOf z a t c := by
  have h := List.all_eq_true.mp (List.all_eq_true.mp (List.all_eq_true.mp (List.all_eq_true.mp col_all a (List.mem_range.mpr ha)) t (List.mem_range.mpr (by omega))) c (List.mem_range.mpr hc)) z (by rcases hz with rfl | rfl | rfl <;> simp)
  have h0 : (t == 0) = false := by simp; omega
  rw [h0, Bool.false_or] at h
  exact of_decide_eq_true h

end
section
noncomputable def lonOf (a t c : Nat) : Int := if (c : Int) > ((wsCs a t).length : Int) - 1 then (c : Int) else ((wsCs a t).length : Int) - 1
noncomputable def mx (x y : Int) : Int := if y > x then y else x
noncomputable def lessOf (a t c a' t' c' : Nat) : Bool :=
  if a + t + c ≥ a' + t' + c' then false
  else if a = 0 ∧ a' = 0 then decide (t ≤ t')
  else (List.range (mx (lonOf a t c) (lonOf a' t' c')).toNat).all fun k => decide (indOf (2 + (k : Int)) a t c < indOf (2 + (k : Int)) a' t' c')
noncomputable def leads : List (Nat × Nat × Nat) := (List.range 3).flatMap fun a => [1, 2, 3].flatMap fun t => (List.range 3).map fun c => (a, t, c)
theorem less_all : (leads.all fun p => leads.all fun q => lessOf p.1 p.2.1 p.2.2 q.1 q.2.1 q.2.2 == (decide (indOf 1 p.1 p.2.1 p.2.2 < indOf 1 q.1 q.2.1 q.2.2) && decide (indOf 2 p.1 p.2.1 p.2.2 < indOf 2 q.1 q.2.1 q.2.2) && decide (indOf 3 p.1 p.2.1 p.2.2 < indOf 3 q.1 q.2.1 q.2.2))) = true := by decide +kernel

end
section
noncomputable def lessV (n n' nt nt' : Int) (s1 s2 : Bool) (m : Int) (f g : Int → Int) : Bool :=
  if n ≥ n' then false else if s1 && s2 then decide (nt ≤ nt') else (List.range m.toNat).all fun k => decide (f (2 + (k : Int)) < g (2 + (k : Int)))
noncomputable def lonV (cs : List Int) (b : Int) : Int := if b > (cs.length : Int) - 1 then b else (cs.length : Int) - 1
noncomputable def indV (cs : List Int) (b nt ts : Int) : Int := b + ts * (ilOf ts cs ((cs.length : Int) - ts).toNat + nt)
theorem less_end {n n' nt nt' : Int} {s1 s2 : Bool} {m : Int} {f g : Int → Int} (h1 : ¬ n ≥ n') (h2 : (s1 && s2) = false) (h : ∀ k, k < m.toNat → f (2 + (k : Int)) < g (2 + (k : Int))) : lessV n n' nt nt' s1 s2 m f g = true := by
  unfold lessV
  rw [if_neg h1, h2, if_neg (by decide)]
  exact List.all_eq_true.mpr fun k hk => decide_eq_true (h k (List.mem_range.mp hk))
theorem less_not {n n' nt nt' : Int} {s1 s2 : Bool} {m : Int} {f g : Int → Int} (h1 : ¬ n ≥ n') (h2 : (s1 && s2) = false) {k : Nat} (hk : k < m.toNat) (h : ¬ f (2 + (k : Int)) < g (2 + (k : Int))) : lessV n n' nt nt' s1 s2 m f g = false := by
  unfold lessV
  rw [if_neg h1, h2, if_neg (by decide)]
  refine Bool.eq_false_iff.mpr fun e => h (of_decide_eq_true (List.all_eq_true.mp e k (List.mem_range.mpr hk)))
theorem less_next {f g : Int → Int} {i : Nat} (hm : ∀ k : Nat, k < i → f (2 + (k : Int)) < g (2 + (k : Int))) (h : f (2 + (i : Int)) < g (2 + (i : Int))) : ∀ k : Nat, k < i + 1 → f (2 + (k : Int)) < g (2 + (k : Int)) := fun k hk => by
  rcases Nat.lt_or_eq_of_le (Nat.le_of_lt_succ hk) with h1 | h1
  · exact hm k h1
  · rw [h1]; exact h

section
theorem less_con {w : World} {R : Led} {o p : Addr} {cs cs' : List Int} {b n nt b' n' nt' : Int} {s1 s2 : Bool} (h1 : WsAt R o cs b n nt s1) (h2 : WsAt R p cs' b' n' nt' s2) (hb : b ≤ 10) (hb' : b' ≤ 10) :
  Con w 2 143 [.ref o, .ref p] [] R (PBool (lessV n n' nt nt' s1 s2 (mx (lonV cs b) (lonV cs' b')) (indV cs b nt) (indV cs' b' nt'))) := by
  obtain ⟨dx, nm, cn, hs, k, vs, tb, tn, tt, raw, tr, m1, m2, m3, m4, hi, hl⟩ := id h1
  obtain ⟨dy, nn, cq, gs, j, us, ub, un', ut, raw2, tr2, a1, a2, a3, a4, ai, al⟩ := id h2
  have b1 : lonV cs b ≤ 10 := by unfold lonV; have := hi.length; split <;> omega
  have b2 : lonV cs' b' ≤ 10 := by unfold lonV; have := ai.length; split <;> omega
  have b1' : -1 ≤ lonV cs b := by unfold lonV; split <;> omega
  have b2' : -1 ≤ lonV cs' b' := by unfold lonV; split <;> omega
  have b3 : mx (lonV cs b) (lonV cs' b') ≤ 10 := by unfold mx; split <;> omega
  have b4 : -1 ≤ mx (lonV cs b) (lonV cs' b') := by unfold mx; split <;> omega
  (k_with "left 34" => skip)
  (k_with "left 32" => skip)
  (k_with "left 35" => skip)
  (k_with "left 36" => skip)
  (k_with "call ref" => (fail_if_success k_extra "left 38"); (((try dsimp only [List.append_nil]); (first | (k_dflt (refine' con_use0 PInt.el (longest_con h1) ?w₉k1 ?w₉k2 ?w₉k3 ?w₉k4 ?w₉k5 ?w₉kK ?w₉kI ?w₉kd ?w₉ku ?_); (case w₉k1 => k_asm); (case w₉k2 => k_asm); (case w₉k3 => k_asm); (case w₉k4 => k_asm); (case w₉k5 => k_asm); (case w₉kK => first | exact rfl | assumption); (case w₉kI => walk_at "my suf"); (case w₉kd => (first | omega | ktr_room)); (case w₉ku => (first | omega | ktr_units)); k_whole) | (k_dflt (refine' con_use0 PInt.el (longest_con h2) ?w₉k1 ?w₉k2 ?w₉k3 ?w₉k4 ?w₉k5 ?w₉kK ?w₉kI ?w₉kd ?w₉ku ?_); (case w₉k1 => k_asm); (case w₉k2 => k_asm); (case w₉k3 => k_asm); (case w₉k4 => k_asm); (case w₉k5 => k_asm); (case w₉kK => first | exact rfl | assumption); (case w₉kI => walk_at "my suf"); (case w₉kd => (first | omega | ktr_room)); (case w₉ku => (first | omega | ktr_units)); k_whole) | (k_dflt (refine' con_use0 PInt.el (indent_con h1 (by omega)) ?w₉k1 ?w₉k2 ?w₉k3 ?w₉k4 ?w₉k5 ?w₉kK ?w₉kI ?w₉kd ?w₉ku ?_); (case w₉k1 => k_asm); (case w₉k2 => k_asm); (case w₉k3 => k_asm); (case w₉k4 => k_asm); (case w₉k5 => k_asm); (case w₉kK => first | exact rfl | assumption); (case w₉kI => walk_at "my suf"); (case w₉kd => (first | omega | ktr_room)); (case w₉ku => (first | omega | ktr_units)); k_whole) | (k_dflt (refine' con_use0 PInt.el (indent_con h2 (by omega)) ?w₉k1 ?w₉k2 ?w₉k3 ?w₉k4 ?w₉k5 ?w₉kK ?w₉kI ?w₉kd ?w₉ku ?_); (case w₉k1 => k_asm); (case w₉k2 => k_asm); (case w₉k3 => k_asm); (case w₉k4 => k_asm); (case w₉k5 => k_asm); (case w₉kK => first | exact rfl | assumption); (case w₉kI => walk_at "my suf"); (case w₉kd => (first | omega | ktr_room)); (case w₉ku => (first | omega | ktr_units)); k_whole)); intro t9₉ h₉ tk₉ F₉ N₉; (try dsimp only); (try k_sweep))))
  refine con_gen (fun P' hPP => ?_)
  refine' con_plain (binds := [(_, _), (_, _)]) ?ho ?hfd ?hcd ?hb ?hl ?c1 ?c2 ?c3 ?c4 ?hh; (case ho => k_dflt k_is); (case hfd => refine' fd_lit ?x1 ?x2 ?x3; (case x1 => (conv => lhs; whnf)); (case x2 => (conv => lhs; whnf)); (case x3 => (conv => lhs; whnf))); (case hcd => k_dflt k_is); (case hb => exact rfl); (case hl => exact locs rfl); (case c1 => exact rfl); (case c2 => exact rfl); (case c3 => exact rfl); (case c4 => decide)
  intro loose mean mg mb dp un gd outer A₀ base g L h₁ s₀ tk Q₀ hq₀ hn₀ B F X N T hd hu
  (try simp only [List.cons_append, List.nil_append, List.append_nil] at N)
  (try dsimp only [List.reverse, List.reverseAux] at F)
  (try dsimp only)
  (try k_fold)
  (first | (refine letAE ?_; intro A9 E9) | skip)
  repeat' (first | ((fail_if_success (with_reducible show wpAny _ _ (pyIter _) _ _ _)); first | (k_unfold; (try dsimp only)) | (with_reducible refine hideQ ?_; intro Q9 hQ9) | (with_reducible refine hideQ2 ?_; intro Q9 hQ9) | (with_reducible refine hQ9 _ _ ?_; try clear hQ9 Q9) | walk1 | (dsimp only; walk1) | (dsimp only; k_unfold; (try dsimp only))) | fail "no step")
  (· exact ret0 hq₀ (by k_asm) (by k_asm) (by (first | walk_at "my suf" | fail "my suf")) (hPP _ _ (PBool.of (by unfold lessV; rw [if_pos (by omega)]))))
  (· exact ret0 hq₀ (by k_asm) (by k_asm) (by (first | walk_at "my suf" | fail "my suf")) (hPP _ _ (PBool.of (by unfold lessV; rw [if_neg (by omega), if_pos (by simp [*])]))))
  all_goals
    refine range_loopA (b₀ := mx (lonV cs b) (lonV cs' b') + 1 + 1) (n := (mx (lonV cs b) (lonV cs' b')).toNat) (fun i m => ∀ k, k < i → indV cs b nt (2 + (k : Int)) < indV cs' b' nt' (2 + (k : Int))) ["ts"] rfl (by assumption) (small_one (by omega) (by omega) (by omega) (by omega)) (by rw [rangeSize_one]; split <;> omega) (by k_asm) (by k_asm) (fun k hk => absurd hk (Nat.not_lt_zero _)) ?step ?fin
    (case step =>
      intro I hI i m hin hm hA J' Q' hJ' hQ' u o' h tk2 F2 N2
      have mS : m (Str.ofString "self") = some (.ref o) := hA.get rfl rfl
      have mT : m (Str.ofString "other") = some (.ref p) := hA.get rfl rfl
      (try dsimp only)
      repeat' (first | (k_unfold; (try dsimp only)) | (with_reducible refine hideQ ?_; intro Q9 hQ9) | (with_reducible refine hideQ2 ?_; intro Q9 hQ9) | (with_reducible refine hQ9 _ _ ?_; try clear hQ9 Q9) | walk1 | (dsimp only; walk1) | (dsimp only; k_unfold; (try dsimp only)) | fail "no step")
      (· have e : indV cs' b' nt' (2 + (i : Int)) ≤ indV cs b nt (2 + (i : Int)) := by assumption
         exact hQ' _ _ (ret0 hq₀ (by k_asm) (by k_asm) (by (first | walk_at "my suf" | fail "my suf")) (hPP _ _ (PBool.of (less_not (by omega) (by simp [*]) hin (by omega)).symm))))
      (· have e : ¬ indV cs' b' nt' (2 + (i : Int)) ≤ indV cs b nt (2 + (i : Int)) := by assumption
         exact turn_end' (by k_asm) (by k_asm) (by (first | walk_at "my sub" | fail "my sub")) (by (first | walk_at "my suf" | fail "my suf")) (hJ' _ (less_next hm (by omega)) (by repeat (first | exact hA | refine Agr.set ?_ rfl)))))
    (case fin =>
      intro m hm hA h tk2 F2 N2
      (try dsimp only)
      repeat' (first | (k_unfold; (try dsimp only)) | (with_reducible refine hideQ ?_; intro Q9 hQ9) | (with_reducible refine hideQ2 ?_; intro Q9 hQ9) | (with_reducible refine hQ9 _ _ ?_; try clear hQ9 Q9) | walk1 | (dsimp only; walk1) | (dsimp only; k_unfold; (try dsimp only)) | fail "no step")
      exact ret0 hq₀ (by k_asm) (by k_asm) (by (first | walk_at "my suf" | fail "my suf")) (hPP _ _ (PBool.of (less_end (by omega) (by simp [*]) hm).symm)))
end

end
section
theorem draws_swap {h₀ h : Heap} {L : Addr} {a b : Addr × Obj} {R : Led} (N : News h₀ L h (a :: b :: R)) : News h₀ L h (b :: a :: R) := fun p hp => N p (by
  simp only [List.mem_cons] at hp ⊢
  rcases hp with h | h | h
  · exact .inr (.inl h)
  · exact .inl h
  · exact .inr (.inr h))
theorem ints12 {a b c d e f g h i j k l : Int} {ta tb tc td te tf tg th ti tj tk tl : Tok} : IntsAre [.int a ta, .int b tb, .int c tc, .int d td, .int e te, .int f tf, .int g tg, .int h th, .int i ti, .int j tj, .int k tk, .int l tl] [a, b, c, d, e, f, g, h, i, j, k, l] := by
  repeat (first | exact .nil | refine .cons _ _ ?_)

section
inductive PDraws : Value → Led → Prop
  | mk (l : Addr) (vs : List Value) (n : Nat) (is : List Int) (hi : IntsAre vs is) (hl : is.length = 12) : PDraws (.ref l) [(l, listOf (List.toArray vs) n)]
theorem PDraws.el (K : Value → Led → Prop) (k : ∀ l vs n is, IntsAre vs is → is.length = 12 → K (.ref l) [(l, listOf (List.toArray vs) n)]) (r : Value) (A : Led) (h : PDraws r A) : K r A := by cases h; exact k _ _ _ _ (by assumption) (by assumption)
theorem draws_con {w : World} {R : Led} {sl : Addr} {vs : List Value} {ns : List Int} (hi : IntsAre vs ns) (hl : ns.length ≤ 63) :
  ConL w 1 171 sl vs.toArray [.ref sl] [] R PDraws := by
  (k_with "left 38" => skip)
  (k_with "left 37" => skip)
  (k_with "exec For Tuple Call" => (fail_if_success k_extra "left 40"); (walk_at "my for"))
  (k_with "k_all" => (fail_if_success k_extra "left 40"); (exact ap))
  (k_with "call type:enumerate" => (fail_if_success k_extra "left 40"); (walk_at "look"))
  (k_with "setItem ref int int" => (fail_if_success k_extra "left 40"); ((k_here; k_dflt (refine' store_sym ?w₉F ?w₉N ?w₉a ?w₉b ?w₉l ?w₉U ?_; (case w₉F => k_asm); (case w₉N => k_asm); (case w₉U => k_upd); (case w₉a => omega); (case w₉b => omega); (case w₉l => omega); intro h₉ F₉ N₉; (try dsimp only [List.nil_append, List.cons_append] at N₉)))))
  refine conL_gen (fun P' hPP => ?_)
  refine' conL_plain (binds := [(_, _)]) ?ho ?hfd ?hcd ?hb ?hl ?c1 ?c2 ?c3 ?c4 ?hh; (case ho => k_dflt k_is); (case hfd => refine' fd_lit ?x1 ?x2 ?x3; (case x1 => (conv => lhs; whnf)); (case x2 => (conv => lhs; whnf)); (case x3 => (conv => lhs; whnf))); (case hcd => k_dflt k_is); (case hb => exact rfl); (case hl => exact locs rfl); (case c1 => exact rfl); (case c2 => exact rfl); (case c3 => exact rfl); (case c4 => decide)
  intro loose mean mg mb dp un gd outer A₀ base g L h₁ s₀ tk Q₀ hq₀ hn₀ B HL F X N T hd hu
  (try simp only [List.cons_append, List.nil_append, List.append_nil] at N)
  (try dsimp only [List.reverse, List.reverseAux] at F)
  (try dsimp only)
  (try k_fold)
  (first | (refine letAE ?_; intro A9 E9) | skip)
  repeat' (first | (k_unfold; (try dsimp only)) | (with_reducible refine hideQ ?_; intro Q9 hQ9) | (with_reducible refine hideQ2 ?_; intro Q9 hQ9) | (with_reducible refine hQ9 _ _ ?_; try clear hQ9 Q9) | walk1 | (dsimp only; walk1) | (dsimp only; k_unfold; (try dsimp only)) | fail "no step")
  rename IntsAre _ (List.take 60 ns) => hI
  rename _ < _ ∧ AllLt _ _ => lA
  rename ∀ p ∈ R, _ => l0
  rename News _ _ _ _ => N
  rename Fr _ _ _ _ => F
  obtain ⟨xs, rfl, ex⟩ := ints_form hI
  have lA1 := lA.1
  refine enum_loop (fun o m => ∃ vs is, o = listOf (List.toArray vs) 0 ∧ IntsAre vs is ∧ is.length = 12 ∧ Agr ["k", "number"] m _) rfl F (draws_swap N) (List.Mem.head _) ⟨_, _, rfl, ints12, rfl, Agr.refl⟩ ?step ?fin
  (case step =>
    intro I hI hd i a t o m hj J' Q' hJ' hQ' T u o1 o2 h tk2 hT F2 N2
    obtain ⟨vs2, is, rfl, hi2, hl2, hA⟩ := hj
    have mD : m (Str.ofString "draws") = some (.ref _) := hA.get rfl rfl
    have q1 := Int.fmod_nonneg_of_pos (i : Int) (show (0 : Int) < 12 by decide)
    have q2 := Int.fmod_lt_of_pos (i : Int) (show (0 : Int) < 12 by decide)
    have hvl : vs2.length = is.length := hi2.length
    obtain ⟨ty, ey⟩ := ints_get hi2 (i := ((i : Int).fmod 12).toNat) (by omega)
    have ap : ∀ q ∈ (I + 1, o1) :: (I, o2) :: (_, listOf (xs.map fun p => Value.int p.1 p.2).toArray 0) :: R, _ := all_cons (Nat.ne_of_gt (Nat.lt_succ_of_lt hd)) (all_cons (Nat.ne_of_gt hd) (all_cons (Nat.ne_of_gt lA1) (fun q hq => Nat.ne_of_lt (l0 q hq))))
    (try dsimp only)
    repeat' (first | (k_unfold; (try dsimp only)) | (with_reducible refine hideQ ?_; intro Q9 hQ9) | (with_reducible refine hideQ2 ?_; intro Q9 hQ9) | (with_reducible refine hQ9 _ _ ?_; try clear hQ9 Q9) | walk1 | (dsimp only; walk1) | (dsimp only; k_unfold; (try dsimp only)) | fail "no step")
    rename News _ _ _ _ => N3
    rename Fr _ _ _ _ => F3
    refine turn_end1 F3 N3 (by (first | walk_at "my sub" | fail "my sub")) (List.Mem.head _) (by (first | walk_at "my suf" | fail "my suf")) (hJ' _ _ ⟨_, _, rfl, ints_set hi2 _, by rw [List.length_set]; exact hl2, by repeat (first | exact hA | refine Agr.set ?_ rfl)⟩))
  (case fin =>
    intro o m hj h tk2 F2 N2
    obtain ⟨vs2, is, rfl, hi2, hl2, hA⟩ := hj
    have mD : m (Str.ofString "draws") = some (.ref _) := hA.get rfl rfl
    (try dsimp only)
    repeat' (first | (k_unfold; (try dsimp only)) | (with_reducible refine hideQ ?_; intro Q9 hQ9) | (with_reducible refine hideQ2 ?_; intro Q9 hQ9) | (with_reducible refine hQ9 _ _ ?_; try clear hQ9 Q9) | walk1 | (dsimp only; walk1) | (dsimp only; k_unfold; (try dsimp only)) | fail "no step")
    exact ret1 hq₀ (by k_asm) (by k_asm) (by (first | walk_at "my suf" | fail "my suf")) (List.Mem.head _) (fun q hq => Nat.ne_of_lt (l0 q hq)) (hPP _ _ (.mk _ _ _ _ hi2 hl2)))
end

end
section
noncomputable def TurnEndL (h₀ : Heap) (L : Addr) (it : Addr × Obj) (s₁ : Shared) (J : (Str → Option Value) → Led → Prop) (s₂ : Shared) : Prop :=
  ∃ h' tk m' all news', s₂ = { s₁ with heap := h', toks := tk } ∧ Fr h₀ L h' m' ∧ News h₀ L h' all ∧ it ∈ all ∧ (∀ p ∈ news', p ∈ all) ∧ (∀ p ∈ news', @Ne Nat p.1 it.1) ∧ J m' news'
noncomputable def TurnPostL (h₀ : Heap) (L : Addr) (it : Addr × Obj) (s₁ : Shared) (J : (Str → Option Value) → Led → Prop) (Q : Flow → Shared → Prop) (f : Flow) (s₂ : Shared) : Prop :=
  match f with
  | .ret v => Q (.ret v) s₂
  | .brk => Q .next s₂
  | _ => TurnEndL h₀ L it s₁ J s₂
theorem turn_endL {h₀ h' : Heap} {L : Addr} {it : Addr × Obj} {all : Led} {s₁ : Shared} {J : (Str → Option Value) → Led → Prop} {m' : Str → Option Value} {tk : Nat} (F : Fr h₀ L h' m') (N : News h₀ L h' all) (hi : it ∈ all) (news' : Led) (hR : ∀ p ∈ news', p ∈ all) (ha : ∀ p ∈ news', @Ne Nat p.1 it.1) (hJ : J m' news') : TurnEndL h₀ L it s₁ J { s₁ with heap := h', toks := tk } :=
  ⟨h', tk, m', all, news', rfl, F, N, hi, hR, ha, hJ⟩
section
variable {w : World} {A : Around} {E : Value → Shared → Prop} {h₀ : Heap} {env : Env} {body : List Stmt} {Q : Flow → Shared → Prop} {s : Shared} {R : Led} {m0 : Str → Option Value}
theorem strL_loop {x : Str} {tx : Str} {t : Tok} {l : List Str} (J : List Str → (Str → Option Value) → Led → Prop) (hx : tx.cps.toList.map (fun c => (⟨#[c]⟩ : Str)) = l) (hh : A.handled = none) (F : Fr h₀ env.locals s.heap m0) (N : News h₀ env.locals s.heap R) (hJ : J l m0 R)
    (step : ∀ I, ∀ (c : Str) (r : List Str) m news, (∀ p ∈ news, @Ne Nat p.1 I) → J (c :: r) m news → ∀ (J' : (Str → Option Value) → Led → Prop) (Q' : Flow → Shared → Prop), (∀ m' news', J r m' news' → J' m' news') → (∀ s, Q .next s → Q' .next s) → (∀ v s, Q (.ret v) s → Q' (.ret v) s) → ∀ u o' h tk, Fr h₀ env.locals h (fun y => if y = x then some (.str c u) else m y) → News h₀ env.locals h ((I, o') :: news) →
      wpAny (model PP w) A (execs body env) (TurnPostL h₀ env.locals (I, o') { s with heap := h, toks := tk } J' Q') E { s with heap := h, toks := tk })
    (fin : ∀ m news, J [] m news → ∀ h tk, Fr h₀ env.locals h m → News h₀ env.locals h news → Q .next { s with heap := h, toks := tk }) :
    wpAny (model PP w) A (pyIter (.str tx t)) (fun it s₂ => LoopAtV PP w A h₀ env x body Q E it s₂) E s := by
  refine iter_strUnr hh F N hx fun I hI => ?_
  clear hx
  have : ∀ (l : List Str) m news, (∀ p ∈ news, @Ne Nat p.1 I) → J l m news → StrRest PP w A E h₀ env x body Q s I l m news := by
    intro l
    induction l with
    | nil => intro m news _ hJ h tk F N; exact fin m news hJ h tk F N
    | cons c r ih =>
      intro m news ha hJ u it h tk F N
      refine wpAny_mono (step I c r m news ha hJ (J r) Q (fun _ _ z => z) (fun _ z => z) (fun _ _ z => z) u it h tk F N) (fun f s₃ h₃ => ?_) fun _ _ e => e
      have up : TurnEndL h₀ env.locals (I, it) { s with heap := h, toks := tk } (J r) s₃ → UnrEnd h₀ env.locals { s with heap := h, toks := tk } I it (StrRest PP w A E h₀ env x body Q s I r) s₃ := by
        rintro ⟨h', tk', m', all, news', e', F', N', hi, hR, ha, hj⟩
        refine ⟨h', tk', m', news', e', F', fun p hp => ?_, ha, ih m' news' ha hj⟩
        rcases List.mem_cons.mp hp with rfl | hp
        · exact N' _ hi
        · exact N' _ (hR _ hp)
      cases f with
      | ret v => exact h₃
      | brk => exact h₃
      | next => exact up h₃
      | cont => exact up h₃
  exact this l m0 R (fun p hp => Nat.ne_of_lt (hI p hp)) hJ
noncomputable def TurnEndC (h₀ : Heap) (L : Addr) (it : Addr × Obj) (base : Led) (s₁ : Shared) (J : (Str → Option Value) → Addr → Obj → Prop) (s₂ : Shared) : Prop :=
  ∃ h' tk m' all d o', s₂ = { s₁ with heap := h', toks := tk } ∧ Fr h₀ L h' m' ∧ News h₀ L h' all ∧ it ∈ all ∧ (d, o') ∈ all ∧ (∀ p ∈ base, p ∈ all) ∧ J m' d o'
noncomputable def TurnPostC (h₀ : Heap) (L : Addr) (it : Addr × Obj) (base : Led) (s₁ : Shared) (J : (Str → Option Value) → Addr → Obj → Prop) (Q : Flow → Shared → Prop) (f : Flow) (s₂ : Shared) : Prop :=
  match f with
  | .ret v => Q (.ret v) s₂
  | .brk => Q .next s₂
  | _ => TurnEndC h₀ L it base s₁ J s₂
theorem turn_endC {h₀ h' : Heap} {L d : Addr} {o : Obj} {it : Addr × Obj} {base all : Led} {s₁ : Shared} {J : (Str → Option Value) → Addr → Obj → Prop} {m' : Str → Option Value} {tk : Nat} (F : Fr h₀ L h' m') (N : News h₀ L h' all) (hi : it ∈ all) (hd : (d, o) ∈ all) (hR : ∀ p ∈ base, p ∈ all) (hJ : J m' d o) : TurnEndC h₀ L it base s₁ J { s₁ with heap := h', toks := tk } :=
  ⟨h', tk, m', all, d, o, rfl, F, N, hi, hd, hR, hJ⟩
theorem strL_loopC {x : Str} {tx : Str} {t : Tok} {l : List Str} {c0 : Addr} {o0 : Obj} {base : Led} (K : List Str → Addr → Obj → (Str → Option Value) → Prop) (ns : List Str) (hx : tx.cps.toList.map (fun c => (⟨#[c]⟩ : Str)) = l) (hh : A.handled = none) (F : Fr h₀ env.locals s.heap m0) (N : News h₀ env.locals s.heap ((c0, o0) :: base)) (h0 : ∀ p ∈ base, @Ne Nat p.1 c0) (hK : K l c0 o0 m0)
    (step : ∀ I, ∀ (c : Str) (r : List Str) m d o, @Ne Nat d I → (∀ p ∈ base, @Ne Nat p.1 I) → (∀ p ∈ base, @Ne Nat p.1 d) → K (c :: r) d o m → Agr ns m m0 → ∀ (J' : (Str → Option Value) → Addr → Obj → Prop) (Q' : Flow → Shared → Prop), (∀ m' d o, K r d o m' → Agr ns m' m0 → @Ne Nat d I → (∀ p ∈ base, @Ne Nat p.1 d) → J' m' d o) → (∀ s, Q .next s → Q' .next s) → (∀ v s, Q (.ret v) s → Q' (.ret v) s) → ∀ u o' h tk, Fr h₀ env.locals h (fun y => if y = x then some (.str c u) else m y) → News h₀ env.locals h ((d, o) :: (I, o') :: base) →
      wpAny (model PP w) A (execs body env) (TurnPostC h₀ env.locals (I, o') base { s with heap := h, toks := tk } J' Q') E { s with heap := h, toks := tk })
    (fin : ∀ m d o, K [] d o m → False) :
    wpAny (model PP w) A (pyIter (.str tx t)) (fun it s₂ => LoopAtV PP w A h₀ env x body Q E it s₂) E s := by
  refine strL_loop (fun l m news => ∃ d o, news = (d, o) :: base ∧ K l d o m ∧ Agr ns m m0 ∧ ∀ p ∈ base, @Ne Nat p.1 d) hx hh F N ⟨c0, o0, rfl, hK, Agr.refl, h0⟩ ?_ (fun m news hj => by obtain ⟨d, o, _, hk, _⟩ := hj; exact (fin m d o hk).elim)
  intro I c r m news ha hj J' Q' hJ' hQn hQr u o' h tk F N
  obtain ⟨d, o, rfl, hk, hA, hd⟩ := hj
  have hdI : @Ne Nat d I := ha (d, o) (List.Mem.head _)
  have hbI : ∀ p ∈ base, @Ne Nat p.1 I := fun p hp => ha p (List.Mem.tail _ hp)
  refine wpAny_mono (step I c r m d o hdI hbI hd hk hA (fun m' d o => K r d o m' ∧ Agr ns m' m0 ∧ @Ne Nat d I ∧ ∀ p ∈ base, @Ne Nat p.1 d) Q' (fun m' d o a b c e => ⟨a, b, c, e⟩) hQn hQr u o' h tk F (fun p hp => N p (by
    simp only [List.mem_cons] at hp ⊢
    rcases hp with h | h | h
    · exact .inr (.inl h)
    · exact .inl h
    · exact .inr (.inr h)))) (fun f s₃ h₃ => ?_) fun _ _ e => e
  have up : TurnEndC h₀ env.locals (I, o') base { s with heap := h, toks := tk } (fun m' d o => K r d o m' ∧ Agr ns m' m0 ∧ @Ne Nat d I ∧ ∀ p ∈ base, @Ne Nat p.1 d) s₃ → TurnEndL h₀ env.locals (I, o') { s with heap := h, toks := tk } J' s₃ := by
    rintro ⟨h', tk', m', all, d₂, o₂, e', F', N', hi, hdd, hR, hk2, hA2, hn, hb⟩
    refine ⟨h', tk', m', all, (d₂, o₂) :: base, e', F', N', hi, fun p hp => ?_, fun p hp => ?_, hJ' _ _ ⟨d₂, o₂, rfl, hk2, hA2, hb⟩⟩
    · rcases List.mem_cons.mp hp with rfl | hp
      · exact hdd
      · exact hR _ hp
    · rcases List.mem_cons.mp hp with rfl | hp
      · exact hn
      · exact hbI p hp
  cases f with
  | ret v => exact h₃
  | brk => exact h₃
  | next => exact up h₃
  | cont => exact up h₃
end
noncomputable def okW (T : List Int × Int × Int × Int) : List Str → List Int → Int → Int → Int → Bool
  | [], _, _, _, _ => false
  | c :: r, cs, b, n, nt =>
    if c = Str.ofString " " then decide (0 ≤ b ∧ b < 10) && okW T r cs (b + 1) (n + 1) nt
    else if c = Str.ofString "\t" then
      if cs = [] then decide (b = 0 ∨ b = 1 ∨ b = 2) && okW T r (List.replicate b.toNat 0 ++ [1]) 0 (n + 1) (nt + 1)
      else decide (b = 0 ∧ cs.length ≤ 3) && okW T r (cs.set 0 (cs.getD 0 0 + 1)) 0 (n + 1) (nt + 1)
    else c == Str.ofString "x" && decide (cs = T.1 ∧ b = T.2.1 ∧ n = T.2.2.1 ∧ nt = T.2.2.2)
theorem okW_cons {T : List Int × Int × Int × Int} {c : Str} {r : List Str} {cs : List Int} {b n nt : Int} (h : okW T (c :: r) cs b n nt = true) :
    (c = Str.ofString " " ∧ 0 ≤ b ∧ b < 10 ∧ okW T r cs (b + 1) (n + 1) nt = true) ∨
    (c = Str.ofString "\t" ∧ cs = [] ∧ (b = 0 ∨ b = 1 ∨ b = 2) ∧ okW T r (List.replicate b.toNat 0 ++ [1]) 0 (n + 1) (nt + 1) = true) ∨
    (c = Str.ofString "\t" ∧ b = 0 ∧ 1 ≤ cs.length ∧ cs.length ≤ 3 ∧ okW T r (cs.set 0 (cs.getD 0 0 + 1)) 0 (n + 1) (nt + 1) = true) ∨
    (c = Str.ofString "x" ∧ T = (cs, b, n, nt)) := by
  unfold okW at h
  split at h
  · rename_i hc
    simp only [Bool.and_eq_true, decide_eq_true_eq] at h
    exact .inl ⟨hc, h.1.1, h.1.2, h.2⟩
  · split at h
    · rename_i hc
      split at h
      · rename_i he
        simp only [Bool.and_eq_true, decide_eq_true_eq] at h
        exact .inr (.inl ⟨hc, he, h.1, h.2⟩)
      · rename_i he
        simp only [Bool.and_eq_true, decide_eq_true_eq] at h
        refine .inr (.inr (.inl ⟨hc, h.1.1, ?_, h.1.2, h.2⟩))
        cases cs with
        | nil => exact absurd rfl he
        | cons _ _ => simp
    · simp only [Bool.and_eq_true, decide_eq_true_eq, beq_iff_eq] at h
      obtain ⟨h1, h2, h3, h4, h5⟩ := h
      exact .inr (.inr (.inr ⟨h1, by rw [h2, h3, h4, h5]⟩))
theorem ext_ok {b : Int} {P : List Int → Prop} (hb : b = 0 ∨ b = 1 ∨ b = 2) (h : P (List.replicate b.toNat (0 : Int) ++ [1])) :
    P ((([] : List Int) ++ (List.replicate (b - ((0 : Nat) : Int) + 1).toNat [0]).flatten).set b.toNat ((([] : List Int) ++ (List.replicate (b - ((0 : Nat) : Int) + 1).toNat [0]).flatten).getD b.toNat 0 + 1)) := by
  rcases hb with rfl | rfl | rfl <;> exact h
theorem news_pick {h₀ h : Heap} {L : Addr} {a b c e : Addr × Obj} {R : Led} (N : News h₀ L h (a :: b :: c :: e :: R)) : News h₀ L h (e :: a :: R) := fun p hp => N p (by
  simp only [List.mem_cons] at hp ⊢
  rcases hp with h | h | h
  · exact .inr (.inr (.inr (.inl h)))
  · exact .inl h
  · exact .inr (.inr (.inr (.inr h))))
theorem take3 {a b c e : Addr × Obj} {R : Led} : ∀ p ∈ [a, b, c], p ∈ a :: b :: c :: e :: R := all_cons (.head _) (all_cons (.tail _ (.head _)) (all_cons (.tail _ (.tail _ (.head _))) (all_nil)))

end
section
noncomputable def lessL (p q : Nat × Nat × Nat) : Bool :=
  lessV (p.1 + p.2.1 + p.2.2 : Nat) (q.1 + q.2.1 + q.2.2 : Nat) p.2.1 q.2.1 (decide (((wsCs p.1 p.2.1).length : Int) ≤ 1)) (decide (((wsCs q.1 q.2.1).length : Int) ≤ 1)) (mx (lonV (wsCs p.1 p.2.1) p.2.2) (lonV (wsCs q.1 q.2.1) q.2.2)) (indV (wsCs p.1 p.2.1) p.2.2 p.2.1) (indV (wsCs q.1 q.2.1) q.2.2 q.2.1)
theorem lessL_all : (leads.all fun p => leads.all fun q => lessL p q == (decide (indOf 1 p.1 p.2.1 p.2.2 < indOf 1 q.1 q.2.1 q.2.2) && (decide (indOf 2 p.1 p.2.1 p.2.2 < indOf 2 q.1 q.2.1 q.2.2) && decide (indOf 3 p.1 p.2.1 p.2.2 < indOf 3 q.1 q.2.1 q.2.2)))) = true := by decide +kernel
theorem lessL_is {p q : Nat × Nat × Nat} (hp : p ∈ leads) (hq : q ∈ leads) : lessL p q = (decide (indOf 1 p.1 p.2.1 p.2.2 < indOf 1 q.1 q.2.1 q.2.2) && (decide (indOf 2 p.1 p.2.1 p.2.2 < indOf 2 q.1 q.2.1 q.2.2) && decide (indOf 3 p.1 p.2.1 p.2.2 < indOf 3 q.1 q.2.1 q.2.2))) :=
  eq_of_beq (List.all_eq_true.mp (List.all_eq_true.mp lessL_all p hp) q hq)
theorem okW_all : (leads.all fun p => okW (wsCs p.1 p.2.1, (p.2.2 : Int), (p.1 + p.2.1 + p.2.2 : Nat), (p.2.1 : Int)) (leadL p.1 p.2.1 p.2.2) [] 0 0 0) = true := by decide +kernel
theorem okW_lead {p : Nat × Nat × Nat} (hp : p ∈ leads) : okW (wsCs p.1 p.2.1, (p.2.2 : Int), (p.1 + p.2.1 + p.2.2 : Nat), (p.2.1 : Int)) (leadL p.1 p.2.1 p.2.2) [] 0 0 0 = true := List.all_eq_true.mp okW_all p hp

end
section
section
inductive PWinit (x : Str) (t : Tok) (cs : List Int) (b n nt : Int) (dx : Addr) : Value → Led → Prop
  | mk (nm cn : Addr) (h0 h1 h2 h3 h4 : Int) (k0 k1 k2 k3 k4 : Tok) (vs : List Value) (tb tn tt : Tok) (hi : IntsAre vs cs) : PWinit x t cs b n nt dx .none [(nm, tupObj #[.ref cn, .int b tb]), (cn, tupObj (List.toArray vs)), (dx, dictOf [⟨h0, .str (Str.ofString "raw") k0, .str x t⟩, ⟨h1, .str (Str.ofString "n") k1, .int n tn⟩, ⟨h2, .str (Str.ofString "nt") k2, .int nt tt⟩, ⟨h3, .str (Str.ofString "norm") k3, .ref nm⟩, ⟨h4, .str (Str.ofString "is_simple") k4, .bool (decide ((cs.length : Int) ≤ 1))⟩] 5)]
theorem PWinit.el {x : Str} {t : Tok} {cs : List Int} {b n nt : Int} {dx : Addr} (K : Value → Led → Prop) (k : ∀ nm cn h0 h1 h2 h3 h4 k0 k1 k2 k3 k4 vs tb tn tt, IntsAre vs cs → K .none [(nm, tupObj #[.ref cn, .int b tb]), (cn, tupObj (List.toArray vs)), (dx, dictOf [⟨h0, .str (Str.ofString "raw") k0, .str x t⟩, ⟨h1, .str (Str.ofString "n") k1, .int n tn⟩, ⟨h2, .str (Str.ofString "nt") k2, .int nt tt⟩, ⟨h3, .str (Str.ofString "norm") k3, .ref nm⟩, ⟨h4, .str (Str.ofString "is_simple") k4, .bool (decide ((cs.length : Int) ≤ 1))⟩] 5)]) (r : Value) (A : Led) (h : PWinit x t cs b n nt dx r A) : K r A := by cases h; exact k _ _ _ _ _ _ _ _ _ _ _ _ _ _ _ _ (by assumption)
inductive WinJ (T : List Int × Int × Int × Int) (l : List Str) (cl : Addr) (o : Obj) (m : Str → Option Value) : Prop
  | mk (vs : List Value) (cs' : List Int) (b' n' nt' : Int) (tb tn tt : Tok) (nn : Nat) (e : o = listOf (List.toArray vs) nn) (hi : IntsAre vs cs') (mC : m "count" = some (.ref cl)) (mB : m "b" = some (.int b' tb)) (mN : m "n" = some (.int n' tn)) (mT : m "nt" = some (.int nt' tt)) (hk : okW T l cs' b' n' nt' = true) : WinJ T l cl o m
theorem winit_con {w : World} {R : Led} {o dx : Addr} {x : Str} {t : Tok} {l : List Str} {cs : List Int} {b n nt : Int} (hcl : cs.length ≤ 10) (hx : x.cps.toList.map (fun c => (⟨#[c]⟩ : Str)) = l) (hok : okW (cs, b, n, nt) l [] 0 0 0 = true) (ho : (o, instObj 153 dx) ∈ R) (hR : ∀ q ∈ R, @Ne Nat q.1 dx) :
  ConC w 1 108 [.ref o, .str x t] [(dx, dictOf [] 0)] R (PWinit x t cs b n nt dx) := by
  (k_with "left 40" => skip)
  (k_with "left 39" => skip)
  (k_with "left 42" => skip)
  (k_with "left 41" => skip)
  (k_with "left 43" => skip)
  (k_with "k_all" => (fail_if_success k_extra "left 45"); (first | exact hR | exact ap))
  (k_with "setItem ref int int" => (fail_if_success k_extra "left 45"); ((k_here; k_dflt (refine' store_sym ?w₉F ?w₉N ?w₉a ?w₉b ?w₉l ?w₉U ?_; (case w₉F => k_asm); (case w₉N => k_asm); (case w₉U => k_upd); (case w₉a => omega); (case w₉b => omega); (case w₉l => (have := ints_len hi; omega)); intro h₉ F₉ N₉; (try dsimp only [List.nil_append, List.cons_append] at N₉)))))
  (k_with "call type:tuple" => (fail_if_success k_extra "left 45"); ((k_here; (with_reducible show wpAny _ _ (call (Value.type _) [Value.ref _]) _ _ _); k_dflt (refine' kde_tupleOf ?w₉k1 ?w₉k2 ?w₉k3 ?w₉k4 ?w₉k5 ?_; (case w₉k1 => k_asm); (case w₉k2 => k_asm); (case w₉k3 => exact News.isList (by k_asm) (by k_mem)); (case w₉k4 => (rw [List.size_toArray]; omega)); (case w₉k5 => exact rfl); k_whole); intro D₉ h₉ F₉ N₉ l1₉; (try k_lt l1₉); (try k_sweep))))
  (k_with "call builtin:len" => (fail_if_success k_extra "left 45"); ((k_here; (have hmark2 := hmark); (with_reducible show wpAny _ _ (call (Value.builtin "len") [Value.ref _]) _ _ _); k_dflt (refine' kun_lenL ?w₉k1 ?w₉k2 ?w₉k3 ?_; (case w₉k1 => exact News.isList (by k_asm) (by k_mem)); (case w₉k2 => first | kun_count | exact len_is hi); (case w₉k3 => first | decide | (have := ints_len hi; omega)); k_whole))))
  refine conC_gen (fun P' hPP => ?_)
  refine' conC_plain (binds := [(_, _), (_, _)]) ?ho ?hfd ?hcd ?hb ?hl ?c1 ?c2 ?c3 ?c4 ?hh; (case ho => k_dflt k_is); (case hfd => refine' fd_lit ?x1 ?x2 ?x3; (case x1 => (conv => lhs; whnf)); (case x2 => (conv => lhs; whnf)); (case x3 => (conv => lhs; whnf))); (case hcd => k_dflt k_is); (case hb => exact rfl); (case hl => exact locs rfl); (case c1 => exact rfl); (case c2 => exact rfl); (case c3 => exact rfl); (case c4 => decide)
  intro loose mean mg mb dp un gd outer A₀ base g L h₁ s₀ tk Q₀ hq₀ hn₀ B F X N T hd hu
  (try simp only [List.cons_append, List.nil_append, List.append_nil] at N)
  (try dsimp only [List.reverse, List.reverseAux] at F)
  (try dsimp only)
  (try k_fold)
  (first | (refine letAE ?_; intro A9 E9) | skip)
  repeat' (first | (k_unfold; (try dsimp only)) | (with_reducible refine hideQ ?_; intro Q9 hQ9) | (with_reducible refine hideQ2 ?_; intro Q9 hQ9) | (with_reducible refine hQ9 _ _ ?_; try clear hQ9 Q9) | walk1 | (dsimp only; walk1) | (dsimp only; k_unfold; (try dsimp only)) | fail "no step")
  rename _ ∧ _ ∧ AllLt _ _ => lA
  rename News _ _ _ _ => N
  rename Fr _ _ _ _ => F
  have lA1 := lA.1
  have lA2 := lA.2.1
  have lA3 := lA.2.2
  refine strL_loopC (fun l cl o m => WinJ (cs, b, n, nt) l cl o m) ["count", "b", "n", "nt", "ch"] hx rfl F N ?base ⟨[], [], 0, 0, 0, _, _, _, _, rfl, .nil, rfl, rfl, rfl, rfl, hok⟩ ?step ?fin
  (case base => exact all_cons (Nat.ne_of_lt lA1) (all_cons (Nat.ne_of_lt lA2) (fun q hq => Nat.ne_of_lt (kst_ltOf lA3 q hq))))
  (case step =>
    intro I c r m d o3 hdI hbI hbd hk hA J' Q' hJ' hQn hQr u o' h tk2 F2 N2
    obtain ⟨vs, cs', b', n', nt', tb, tn, tt, nn, rfl, hi, mC, mB, mN, mT, hk⟩ := hk
    have mS : m (Str.ofString "self") = some (.ref o) := hA.get rfl rfl
    have mS1 : m (Str.ofString "S") = some (.str (Str.ofString " ") _) := hA.get rfl rfl
    have mT1 : m (Str.ofString "T") = some (.str (Str.ofString "\t") _) := hA.get rfl rfl
    rcases okW_cons hk with ⟨rfl, h1, h2, h3⟩ | ⟨rfl, rfl, hb, h3⟩ | ⟨rfl, rfl, h1, h2, h3⟩ | ⟨rfl, h3⟩
    (· (try dsimp only)
       repeat' (first | (k_unfold; (try dsimp only)) | (with_reducible refine hideQ ?_; intro Q9 hQ9) | (with_reducible refine hideQ2 ?_; intro Q9 hQ9) | (with_reducible refine hQ9 _ _ ?_; try clear hQ9 Q9) | walk1 | (dsimp only; walk1) | (dsimp only; k_unfold; (try dsimp only)) | fail "no step")
       rename News _ _ _ _ => N3
       rename Fr _ _ _ _ => F3
       exact turn_endC F3 N3 (by first | k_mem | fail "k_mem") (List.Mem.head _) (by (first | walk_at "my suf" | fail "my suf")) (hJ' _ _ _ ⟨_, _, _, _, _, _, _, _, _, rfl, hi, by first | rfl | exact mC, rfl, rfl, by first | rfl | exact mT, h3⟩ (by repeat (first | exact hA | refine Agr.set ?_ rfl)) hdI hbd))
    (· have hb0 : 0 ≤ b' := by omega
       have hb2 : b' ≤ 2 := by omega
       (try dsimp only)
       repeat' (first | (k_unfold; (try dsimp only)) | (with_reducible refine hideQ ?_; intro Q9 hQ9) | (with_reducible refine hideQ2 ?_; intro Q9 hQ9) | (with_reducible refine hQ9 _ _ ?_; try clear hQ9 Q9) | walk1 | (dsimp only; walk1) | (dsimp only; k_unfold; (try dsimp only)) | fail "no step")
       rename News _ _ _ _ => N3
       rename Fr _ _ _ _ => F3
       rename _ ∧ _ ∧ _ ∧ _ ∧ _ ∧ _ ∧ AllLt _ _ => lB
       exact turn_endC F3 N3 (by first | k_mem | fail "k_mem") (List.Mem.head _) (by (first | walk_at "my suf" | fail "my suf")) (hJ' _ _ _ ⟨_, _, _, _, _, _, _, _, _, rfl, ints_set (by assumption) _, rfl, rfl, rfl, rfl, ext_ok (P := fun z => okW (cs, b, n, nt) r z 0 (n' + 1) (nt' + 1) = true) hb h3⟩ (by repeat (first | exact hA | refine Agr.set ?_ rfl)) (Nat.ne_of_gt lB.2.2.2.1) (all_cons (Nat.ne_of_lt lB.2.2.2.2.1) (all_cons (Nat.ne_of_lt lB.2.2.2.2.2.1) (fun q hq => Nat.ne_of_lt (kst_ltOf lB.2.2.2.2.2.2 q hq))))))
    (· have ap : ∀ q ∈ (I, o') :: _, _ := all_cons (fun e => hdI e.symm) (hbd)
       (try dsimp only)
       repeat' (first | (k_unfold; (try dsimp only)) | (with_reducible refine hideQ ?_; intro Q9 hQ9) | (with_reducible refine hideQ2 ?_; intro Q9 hQ9) | (with_reducible refine hQ9 _ _ ?_; try clear hQ9 Q9) | walk1 | (dsimp only; walk1) | (dsimp only; k_unfold; (try dsimp only)) | fail "no step")
       rename News _ _ _ _ => N3
       rename Fr _ _ _ _ => F3
       exact turn_endC F3 N3 (by first | k_mem | fail "k_mem") (List.Mem.head _) (by (first | walk_at "my suf" | fail "my suf")) (hJ' _ _ _ ⟨_, _, _, _, _, _, _, _, _, rfl, ints_set hi _, by first | rfl | exact mC, rfl, rfl, rfl, h3⟩ (by repeat (first | exact hA | refine Agr.set ?_ rfl)) hdI hbd))
    (· (try dsimp only)
       repeat' (first | (k_unfold; (try dsimp only)) | (with_reducible refine hideQ ?_; intro Q9 hQ9) | (with_reducible refine hideQ2 ?_; intro Q9 hQ9) | (with_reducible refine hQ9 _ _ ?_; try clear hQ9 Q9) | walk1 | (dsimp only; walk1) | (dsimp only; k_unfold; (try dsimp only)) | fail "no step")
       refine hQn _ ?_
       rename News _ _ _ _ => N3
       replace N3 := news_pick N3
       have ap : ∀ q ∈ (d, listOf (List.toArray vs) nn) :: R, _ := all_cons (fun e => hbd _ (List.Mem.tail _ (List.Mem.head _)) e.symm) (hR)
       simp only [Prod.mk.injEq] at h3
       obtain ⟨rfl, rfl, rfl, rfl⟩ := h3
       have hmark : True := trivial
       have hvl : vs.length ≤ 10 := by rw [ints_len hi]; exact hcl
       clear hJ' hQn hQr hbd hbI hA hx hok
       (try dsimp only)
       repeat' (first | (k_unfold; (try dsimp only)) | (with_reducible refine hideQ ?_; intro Q9 hQ9) | (with_reducible refine hideQ2 ?_; intro Q9 hQ9) | (with_reducible refine hQ9 _ _ ?_; try clear hQ9 Q9) | walk1 | (dsimp only; walk1) | (dsimp only; k_unfold; (try dsimp only)) | fail "no step")
       rename News _ _ _ _ => N3
       rename Fr _ _ _ _ => F3
       rename _ ∧ _ ∧ _ ∧ AllLt _ _ => lB
       rename _ ∧ _ ∧ AllLt _ _ => lC
       exact retV hn₀ [_, _, _] F3 N3 take3 (fun p hp => .tail _ (.tail _ (.tail _ (.tail _ hp)))) (all_cons (fun q hq => Nat.ne_of_lt (kst_ltOf lB.2.2.2 q hq)) (all_cons (fun q hq => Nat.ne_of_lt (kst_ltOf lC.2.2 q hq)) (all_cons (hR) (all_nil)))) (hPP _ _ (.mk _ _ _ _ _ _ _ _ _ _ _ _ _ _ _ _ hi))))
  (case fin => 
    intro m d o hj
    obtain ⟨vs, cs', b', n', nt', tb, tn, tt, nn, rfl, hi, mC, mB, mN, mT, hk⟩ := hj
    exact absurd hk (by simp [okW]))
end

end
section
theorem ne1 {p q r : Prop} [Decidable p] [Decidable q] [Decidable r] (h1 : ¬ p) (h : ((decide p && (decide q && decide r)) != decide p) = true) : False := by simp [h1] at h
theorem ne2 {p q r : Prop} [Decidable p] [Decidable q] [Decidable r] (h1 : p) (h2 : ¬ q) (h : ((decide p && (decide q && decide r)) != decide q) = true) : False := by simp [h1, h2] at h
theorem ne3 {p q r : Prop} [Decidable p] [Decidable q] [Decidable r] (h1 : p) (h2 : q) (h : ((decide p && (decide q && decide r)) != decide r) = true) : False := by simp [h1, h2] at h

section
theorem law_less_con {w : World} {R : Led} {nl wl : Addr} {n1 n2 : Nat} {no wo : Fin 4 → Addr} {cs : Fin 4 → List Int} {b n nt c0 c1 c2 : Fin 4 → Int} {sm : Fin 4 → Bool} (hn : (nl, listOf (([0, 1, 2, 3] : List (Fin 4)).map fun k => Value.ref (no k)).toArray n1) ∈ R) (hw : (wl, listOf (([0, 1, 2, 3] : List (Fin 4)).map fun k => Value.ref (wo k)).toArray n2) ∈ R)
    (hws : ∀ k, WsAt R (no k) (cs k) (b k) (n k) (nt k) (sm k)) (hb : ∀ k, b k ≤ 10) (hwk : ∀ k, ∃ t0 t1 t2 v, (wo k, tupObj #[.int (c0 k) t0, .int (c1 k) t1, .int (c2 k) t2, v]) ∈ R)
    (hl : ∀ i j, lessV (n i) (n j) (nt i) (nt j) (sm i) (sm j) (mx (lonV (cs i) (b i)) (lonV (cs j) (b j))) (indV (cs i) (b i) (nt i)) (indV (cs j) (b j) (nt j)) = (decide (c0 i < c0 j) && (decide (c1 i < c1 j) && decide (c2 i < c2 j)))) :
  Con w 3 192 [.ref nl, .ref wl] [] R (PBool true) := by
  (k_with "left 45" => skip)
  (k_with "left 44" => skip)
  (k_with "exec For Tuple Call" => (fail_if_success k_extra "left 47"); (walk_at "my for"))
  (k_with "call type:zip" => (fail_if_success k_extra "left 47"); (walk_at "look"))
  (k_with "call ref" => (fail_if_success k_extra "left 47"); (((try dsimp only [List.append_nil]); k_dflt (refine' con_use0 PBool.el hC ?w₉k1 ?w₉k2 ?w₉k3 ?w₉k4 ?w₉k5 ?w₉kK ?w₉kI ?w₉kd ?w₉ku ?_); (case w₉k1 => k_asm); (case w₉k2 => k_asm); (case w₉k3 => k_asm); (case w₉k4 => k_asm); (case w₉k5 => k_asm); (case w₉kK => first | exact rfl | assumption); (case w₉kI => walk_at "my suf"); (case w₉kd => (first | omega | ktr_room)); (case w₉ku => (first | omega | ktr_units)); k_whole; intro h₉ tk₉ F₉ N₉; (try dsimp only); (try k_sweep))))
  refine con_gen (fun P' hPP => ?_)
  refine' con_plain (binds := [(_, _), (_, _)]) ?ho ?hfd ?hcd ?hb ?hl ?c1 ?c2 ?c3 ?c4 ?hh; (case ho => k_dflt k_is); (case hfd => refine' fd_lit ?x1 ?x2 ?x3; (case x1 => (conv => lhs; whnf)); (case x2 => (conv => lhs; whnf)); (case x3 => (conv => lhs; whnf))); (case hcd => k_dflt k_is); (case hb => exact rfl); (case hl => exact locs rfl); (case c1 => exact rfl); (case c2 => exact rfl); (case c3 => exact rfl); (case c4 => decide)
  intro loose mean mg mb dp un gd outer A₀ base g L h₁ s₀ tk Q₀ hq₀ hn₀ B F X N T hd hu
  (try simp only [List.cons_append, List.nil_append, List.append_nil] at N)
  (try dsimp only [List.reverse, List.reverseAux] at F)
  (try dsimp only)
  (try k_fold)
  (first | (refine letAE ?_; intro A9 E9) | skip)
  repeat' (first | (k_unfold; (try dsimp only)) | (with_reducible refine hideQ ?_; intro Q9 hQ9) | (with_reducible refine hideQ2 ?_; intro Q9 hQ9) | (with_reducible refine hQ9 _ _ ?_; try clear hQ9 Q9) | walk1 | (dsimp only; walk1) | (dsimp only; k_unfold; (try dsimp only)) | fail "no step")
  rename News _ _ _ _ => N
  rename Fr _ _ _ _ => F
  refine zip_loop (fun k => Value.ref (no k)) (fun k => Value.ref (wo k)) (fun m => Agr ["one", "here", "other", "there", "smaller"] m _) rfl F N hn hw Agr.refl ?step ?fin
  (case fin =>
    intro m hA h tk2 F2 N2
    (try dsimp only)
    repeat' (first | (k_unfold; (try dsimp only)) | (with_reducible refine hideQ ?_; intro Q9 hQ9) | (with_reducible refine hideQ2 ?_; intro Q9 hQ9) | (with_reducible refine hQ9 _ _ ?_; try clear hQ9 Q9) | walk1 | (dsimp only; walk1) | (dsimp only; k_unfold; (try dsimp only)) | fail "no step")
    exact ret0 hq₀ (by k_asm) (by k_asm) (by (first | walk_at "my suf" | fail "my suf")) (hPP _ _ .mk))
  (case step =>
    intro I hI x m hA J' Q' hJ' hQ' T1 its h tk2 hT F2 hge N2
    have mN : m (Str.ofString "nannies") = some (.ref nl) := hA.get rfl rfl
    have mW : m (Str.ofString "walked") = some (.ref wl) := hA.get rfl rfl
    (try dsimp only)
    repeat' (first | (k_unfold; (try dsimp only)) | (with_reducible refine hideQ ?_; intro Q9 hQ9) | (with_reducible refine hideQ2 ?_; intro Q9 hQ9) | (with_reducible refine hQ9 _ _ ?_; try clear hQ9 Q9) | walk1 | (dsimp only; walk1) | (dsimp only; k_unfold; (try dsimp only)) | fail "no step")
    rename News _ _ _ _ => N3
    rename Fr _ _ _ _ => F3
    refine zip_loop (fun k => Value.ref (no k)) (fun k => Value.ref (wo k)) (fun m' => Agr ["other", "there", "smaller"] m' _) rfl F3 N3 (List.mem_append_right _ hn) (List.mem_append_right _ hw) Agr.refl ?step2 ?fin2
    (case fin2 =>
      intro m2 hA2 h2 tk3 F4 N4
      (try dsimp only)
      repeat' (first | (k_unfold; (try dsimp only)) | (with_reducible refine hideQ ?_; intro Q9 hQ9) | (with_reducible refine hideQ2 ?_; intro Q9 hQ9) | (with_reducible refine hQ9 _ _ ?_; try clear hQ9 Q9) | walk1 | (dsimp only; walk1) | (dsimp only; k_unfold; (try dsimp only)) | fail "no step")
      exact turn_end' F4 N4 (fun p hp => List.mem_append_left _ hp) (fun p hp => List.mem_append_right _ hp) (hJ' _ (by
        refine Agr.trans (hA2.wide (ns' := ["one", "here", "other", "there", "smaller"]) (by decide +kernel)) ?_
        repeat (first | exact hA | refine Agr.set ?_ rfl))))
    (case step2 =>
      intro I2 hI2 y m2 hA3 J2 Q2 hJ2 hQ2 T2 its2 h3 tk3 hT2 F4 hge2 N4
      have mO : m2 (Str.ofString "one") = some (.ref (no x)) := hA3.get rfl rfl
      have mH : m2 (Str.ofString "here") = some (.ref (wo x)) := hA3.get rfl rfl
      have up : ∀ p ∈ R, p ∈ its2 ++ (its ++ R) := fun p hp => List.mem_append_right _ (List.mem_append_right _ hp)
      have u1 : ∀ p ∈ its2, p ∈ its2 ++ (its ++ R) := fun p hp => List.mem_append_left _ hp
      have u2 : ∀ p ∈ its ++ R, p ∈ its2 ++ (its ++ R) := fun p hp => List.mem_append_right _ hp
      obtain ⟨t0, t1, t2, v1, e1⟩ := hwk x
      obtain ⟨r0, r1, r2, v2, e2⟩ := hwk y
      replace e1 := up _ e1
      replace e2 := up _ e2
      have h1 := (hws x).mono up
      have h2 := (hws y).mono up
      have hb1 := hb x
      have hb2 := hb y
      have ev := hl x y
      clear hn hw hws hwk hb hl hA hI hI2 hJ' hQ' hge hge2 N3 up
      generalize its2 ++ (its ++ R) = R2 at N4 u1 u2 e1 e2 h1 h2
      have hC : Con w 2 143 [.ref (no x), .ref (no y)] [] R2 (PBool (decide (c0 x < c0 y) && (decide (c1 x < c1 y) && decide (c2 x < c2 y)))) := ev ▸ less_con h1 h2 hb1 hb2
      obtain ⟨dx, nm, cn, hs, k, vs, tb, tn, tt, raw, tr, m1, m2', _⟩ := id h1
      clear ev h1 h2 hb1 hb2
      (try dsimp only)
      repeat' (first | (k_unfold; (try dsimp only)) | (with_reducible refine hideQ ?_; intro Q9 hQ9) | (with_reducible refine hideQ2 ?_; intro Q9 hQ9) | (with_reducible refine hQ9 _ _ ?_; try clear hQ9 Q9) | walk1 | (dsimp only; walk1) | (dsimp only; k_unfold; (try dsimp only)) | fail "no step")
      all_goals first
        | (rename (_ != _) = true => q9; first | exact (ne1 (by assumption) q9).elim | exact (ne2 (by assumption) (by assumption) q9).elim | exact (ne3 (by assumption) (by assumption) q9).elim)
        | exact turn_end' (by k_asm) (by k_asm) u1 u2 (hJ2 _ (by repeat (first | exact hA3 | refine Agr.set ?_ rfl)))))
end

end
section
theorem len8 {w : World} {A : Around} {E : Value → Shared → Prop} {s : Shared} {b : Array UInt8} {ks : List Int} {t : Tok} {Q : Value → Shared → Prop} (hk : KBw.bInts b = ks) (hl : ks.length = 8) (h : ∀ t' k, Q (.int 8 t') { s with toks := k }) : wpAny (model PP w) A (call (.builtin "len") [.bytes b t]) Q E s := by
  refine KBw.len_K hk (by omega) ?_
  rw [hl]
  exact h _ _
theorem bsw_step {ks : List Int} {i j : Nat} (hj : j < 4) : (bsw ks (4 * i + j)).set (0 + (i : Int) * 4 + 4 - 1 - (0 + (j : Int) * 1)).toNat (ks.getD (0 + (i : Int) * 4 + (0 + (j : Int) * 1)).toNat 0) = bsw ks (4 * i + (j + 1)) := by
  have e1 : (0 + (i : Int) * 4 + 4 - 1 - (0 + (j : Int) * 1)).toNat = 4 * ((4 * i + j) / 4) + 3 - (4 * i + j) % 4 := by omega
  have e2 : (0 + (i : Int) * 4 + (0 + (j : Int) * 1)).toNat = 4 * i + j := by omega
  rw [e1, e2, ← Nat.add_assoc]
  rfl

section
inductive PBytes (x : Array UInt8) : Value → Led → Prop
  | mk (t : Tok) : PBytes x (.bytes x t) []
theorem PBytes.el {x : Array UInt8} (K : Value → Prop) (k : ∀ t, K (.bytes x t)) (r : Value) (A : Led) (h : PBytes x r A) : K r ∧ A = [] := by cases h; exact ⟨k _, rfl⟩
theorem swap_con {w : World} {R : Led} {b : Array UInt8} {ks : List Int} {t t4 : Tok} (hk : KBw.bInts b = ks) (hl : ks.length = 8) :
  ConK w 1 164 [.bytes b t, .int 4 t4] [] R (PBytes (byteArr (bsw ks 8))) := by
  (k_with "left 47" => skip)
  (k_with "left 46" => skip)
  (k_with "call builtin:len" => (fail_if_success k_extra "left 49"); ((k_here; (with_reducible show wpAny _ _ (call (Value.builtin "len") [Value.bytes _ _]) _ _ _); refine' len8 hk hl ?_; intro t₉ k₉)))
  (k_with "exec For Name Call cons nil" => (fail_if_success k_extra "left 49"); ((k_here; (rename Fr _ _ _ _ => lF₉); (with_unfolding_all refine' For_invVF lF₉ ?w₉k1 ?w₉k2 ?_; (case w₉k1 => exact rfl); (case w₉k2 => exact rfl); k_whole))))
  (k_with "subscriptTail Name BinOp bytes int" => (fail_if_success k_extra "left 49"); ((k_here; (with_reducible show wpAny _ _ (subscriptTail _ _ (Value.bytes _ _) (Value.int _ _)) _ _ _); (refine' KBw.item_K hk ?w₉a ?w₉b ?w₉c ?_; (case w₉a => omega); (case w₉b => omega); (case w₉c => omega)); intro t₉ k₉ v0₉ v1₉)))
  (k_with "setItem ref int int" => (fail_if_success k_extra "left 49"); ((k_here; k_dflt (refine' ba_store ?w₉F ?w₉N ?w₉a ?w₉b ?w₉c ?w₉d ?w₉e ?w₉U ?_; (case w₉F => k_asm); (case w₉N => k_asm); (case w₉U => k_upd); (case w₉a => omega); (case w₉b => (rw [bsw_len]; omega)); (case w₉c => (rw [bsw_len]; omega)); (case w₉d => assumption); (case w₉e => assumption); intro h₉ F₉ N₉; (try dsimp only [List.nil_append, List.cons_append] at N₉)))))
  (k_with "call type:bytes" => (fail_if_success k_extra "left 49"); ((k_here; (refine' ba_bytes ?w₉N ?w₉m ?w₉z ?_; (case w₉N => k_asm); (case w₉m => exact List.Mem.head _); (case w₉z => (rw [bsw_len]; omega)); intro t₉ k₉))))
  (k_with "k_all" => (fail_if_success k_extra "left 49"); (exact ap))
  refine conK_gen (fun P' hPP => ?_)
  refine' conK_plain (binds := [(_, _), (_, _)]) ?ho ?hfd ?hcd ?hb ?hl ?c1 ?c2 ?c3 ?c4 ?hh; (case ho => k_dflt k_is); (case hfd => refine' fd_lit ?x1 ?x2 ?x3; (case x1 => (conv => lhs; whnf)); (case x2 => (conv => lhs; whnf)); (case x3 => (conv => lhs; whnf))); (case hcd => k_dflt k_is); (case hb => exact rfl); (case hl => exact locs rfl); (case c1 => exact rfl); (case c2 => exact rfl); (case c3 => exact rfl); (case c4 => decide)
  intro loose mean mg mb dp un gd outer A₀ base g L h₁ s₀ tk Q₀ hq₀ hn₀ B F X N T hd hu
  (try simp only [List.cons_append, List.nil_append, List.append_nil] at N)
  (try dsimp only [List.reverse, List.reverseAux] at F)
  (try dsimp only)
  (try k_fold)
  (first | (refine letAE ?_; intro A9 E9) | skip)
  refine execsK_cons (assignK (evalCallK ?_))
  (try dsimp only)
  repeat' (first | (k_unfold; (try dsimp only)) | (with_reducible refine hideQ ?_; intro Q9 hQ9) | (with_reducible refine hideQ2 ?_; intro Q9 hQ9) | (with_reducible refine hQ9 _ _ ?_; try clear hQ9 Q9) | walk1 | (dsimp only; walk1) | (dsimp only; k_unfold; (try dsimp only)) | fail "no step")
  refine callWithKT ?_
  repeat' (first | (k_unfold; (try dsimp only)) | (with_reducible refine hideQ ?_; intro Q9 hQ9) | (with_reducible refine hideQ2 ?_; intro Q9 hQ9) | (with_reducible refine hQ9 _ _ ?_; try clear hQ9 Q9) | walk1 | (dsimp only; walk1) | (dsimp only; k_unfold; (try dsimp only)) | fail "no step")
  (try dsimp only)
  refine ba_makeK (by k_asm) (by k_asm) (by decide) (by decide) ?_
  intro S h2 k2 F2 N2 hlt
  (try dsimp only)
  repeat' (first | (k_unfold; (try dsimp only)) | (with_reducible refine hideQ ?_; intro Q9 hQ9) | (with_reducible refine hideQ2 ?_; intro Q9 hQ9) | (with_reducible refine hQ9 _ _ ?_; try clear hQ9 Q9) | walk1 | (dsimp only; walk1) | (dsimp only; k_unfold; (try dsimp only)) | fail "no step")
  refine wpK.of ?_
  repeat' (first | ((fail_if_success (with_reducible show wpAny _ _ (pyIter _) _ _ _)); first | (k_unfold; (try dsimp only)) | (with_reducible refine hideQ ?_; intro Q9 hQ9) | (with_reducible refine hideQ2 ?_; intro Q9 hQ9) | (with_reducible refine hQ9 _ _ ?_; try clear hQ9 Q9) | walk1 | (dsimp only; walk1) | (dsimp only; k_unfold; (try dsimp only))) | fail "no step")
  rename News _ _ _ _ => N
  rename Fr _ _ _ _ => F
  refine rangeS_loop (n := 2) (fun i o m => o = baObj (bsw ks (4 * i)) ∧ Agr ["i", "j"] m _) rfl (by assumption) (by decide) (by decide) F N ⟨rfl, Agr.refl⟩ ?step ?fin
  (case step =>
    intro I hI hd i o m hi hj J' Q' hJ' hQ' ti own h3 tk3 hown F3 N3
    obtain ⟨rfl, hA⟩ := hj
    have mS : m (Str.ofString "swapped_data") = some (.ref S) := hA.get rfl rfl
    have mD : m (Str.ofString "data") = some (.bytes b t) := hA.get rfl rfl
    have mW : m (Str.ofString "width") = some (.int 4 t4) := hA.get rfl rfl
    (try dsimp only)
    repeat' (first | ((fail_if_success (with_reducible show wpAny _ _ (pyIter _) _ _ _)); first | (k_unfold; (try dsimp only)) | (with_reducible refine hideQ ?_; intro Q9 hQ9) | (with_reducible refine hideQ2 ?_; intro Q9 hQ9) | (with_reducible refine hQ9 _ _ ?_; try clear hQ9 Q9) | walk1 | (dsimp only; walk1) | (dsimp only; k_unfold; (try dsimp only))) | fail "no step")
    rename News _ _ _ _ => N
    rename Fr _ _ _ _ => F
    refine rangeS_loop (n := 4) (fun j o m' => o = baObj (bsw ks (4 * i + j)) ∧ Agr ["j"] m' _) rfl (by assumption) (by decide) (by decide) F N ⟨rfl, Agr.refl⟩ ?step2 ?fin2
    (case step2 =>
      intro I2 hI2 hd2 j o m2 hj2 hk2 J2 Q2 hJ2 hQ2 tj own2 h4 tk4 hown2 F4 N4
      obtain ⟨rfl, hA2⟩ := hk2
      have mS2 : m2 (Str.ofString "swapped_data") = some (.ref S) := hA2.get rfl mS
      have mD2 : m2 (Str.ofString "data") = some (.bytes b t) := hA2.get rfl mD
      have mW2 : m2 (Str.ofString "width") = some (.int 4 t4) := hA2.get rfl mW
      have mI2 : m2 (Str.ofString "i") = some (.int (0 + (i : Int) * 4) _) := hA2.get rfl rfl
      have ap : ∀ q ∈ own2 ++ (own ++ R), @Ne Nat q.1 S := fun q hq => by
        rcases List.mem_append.mp hq with h | h
        · rw [hown2 q h]; exact Nat.ne_of_gt hd2
        · rcases List.mem_append.mp h with h | h
          · rw [hown q h]; exact Nat.ne_of_gt hd
          · exact Nat.ne_of_lt (hlt q h)
      (try dsimp only)
      repeat' (first | (k_unfold; (try dsimp only)) | (with_reducible refine hideQ ?_; intro Q9 hQ9) | (with_reducible refine hideQ2 ?_; intro Q9 hQ9) | (with_reducible refine hQ9 _ _ ?_; try clear hQ9 Q9) | walk1 | (dsimp only; walk1) | (dsimp only; k_unfold; (try dsimp only)) | fail "no step")
      rename News _ _ _ _ => N5
      rename Fr _ _ _ _ => F5
      exact turn_end1 F5 N5 (fun p hp => List.Mem.tail _ (List.mem_append_left _ hp)) (List.Mem.head _) (fun p hp => List.Mem.tail _ (List.mem_append_right _ hp)) (hJ2 _ _ ⟨congrArg baObj (bsw_step hj2), by repeat (first | exact hA2 | refine Agr.set ?_ rfl)⟩))
    (case fin2 =>
      intro o m2 hk2 h4 tk4 F4 N4
      obtain ⟨rfl, hA2⟩ := hk2
      (try dsimp only)
      repeat' (first | (k_unfold; (try dsimp only)) | (with_reducible refine hideQ ?_; intro Q9 hQ9) | (with_reducible refine hideQ2 ?_; intro Q9 hQ9) | (with_reducible refine hQ9 _ _ ?_; try clear hQ9 Q9) | walk1 | (dsimp only; walk1) | (dsimp only; k_unfold; (try dsimp only)) | fail "no step")
      exact turn_end1 F4 N4 (fun p hp => List.Mem.tail _ (List.mem_append_left _ hp)) (List.Mem.head _) (fun p hp => List.Mem.tail _ (List.mem_append_right _ hp)) (hJ' _ _ ⟨rfl, Agr.trans (hA2.wide (ns' := ["i", "j"]) (by decide +kernel)) (by repeat (first | exact hA | refine Agr.set ?_ rfl))⟩)))
  (case fin =>
    intro o m hj h3 tk3 F3 N3
    obtain ⟨rfl, hA⟩ := hj
    have mS : m (Str.ofString "swapped_data") = some (.ref S) := hA.get rfl rfl
    (try dsimp only)
    repeat' (first | (k_unfold; (try dsimp only)) | (with_reducible refine hideQ ?_; intro Q9 hQ9) | (with_reducible refine hideQ2 ?_; intro Q9 hQ9) | (with_reducible refine hQ9 _ _ ?_; try clear hQ9 Q9) | walk1 | (dsimp only; walk1) | (dsimp only; k_unfold; (try dsimp only)) | fail "no step")
    exact ret0 hq₀ (by k_asm) (fun p hp => N3 p hp) (fun p hp => List.Mem.tail _ hp) (hPP _ _ (.mk _)))
end

end
section
theorem seg1_sort {h₀ h : Heap} {L : Addr} {a b c n d e t : Addr × Obj} (N : News h₀ L h [a, b, c, n, d, e, t]) : News h₀ L h (n :: t :: [a, b, c, d, e]) := fun p hp => N p (by
  simp only [List.mem_cons, List.not_mem_nil, or_false] at hp ⊢
  rcases hp with h | h | h | h | h | h | h <;> simp [h])

section
theorem seg0 {w : World} {loose : List Str} {mean : ExcName → Option Value} {mg mb : Str → Option Value} {dp un : Nat} {gd : Option (List Code)} {outer : List Env} {A₀ : Around} {base g h₁ : Heap} {L sl : Addr} {s₀ : Shared} {tk : Nat} {Q : Flow → Shared → Prop} {E : Value → Shared → Prop} {B : List Stmt} {sc : Scope} {m : Str → Option Value} {vs : List Value} {ns : List Int} {oN oL oD : Obj}
    (hB : B = fB (stAt 28)) (hS : sc = fS (stAt 28)) (Bl : Below A₀ base outer g) (F : Fr g L h₁ m) (X : (K9 w.params).In g) (T : Top topProg loose mean mg mb g) (hd : dp + 8 < recursionLimit) (hu : un + 12 * 8 + 9 < cLine)
    (HL : g.IsList sl vs.toArray) (hi : IntsAre vs ns) (hl : ns.length ≤ 63) (hm : m (Str.ofString "script") = some (.ref sl)) (l1 : @LT.lt Nat _ 242 L)
    (N : News g L h₁ [(L + 1 + 1 + 1, oN), (L + 1 + 1, oL), (L + 1, oD), ((242 : Addr), tabObj #[])]) (dN : oN.data = .cell none) (dL : oL.data = .cell none) (dD : oD.data = .cell none)
    (k : ∀ h' tk' dl vs' n' ds oD', Fr g L h' m → IntsAre vs' ds → ds.length = 12 → oD'.data = .cell (some (.ref dl)) → AptL dl [(L + 1 + 1 + 1, oN), (L + 1 + 1, oL), (L + 1, oD), ((242 : Addr), tabObj #[])] → News g L h' [(dl, listOf (List.toArray vs') n'), (L + 1 + 1 + 1, oN), (L + 1 + 1, oL), (L + 1, oD'), ((242 : Addr), tabObj #[])] → Q .next { s₀ with heap := h', toks := tk' }) :
    wpAny (model PP w) (ktrTop dp un gd (Str.ofString "law") sc L 252 (.ref 251) (cellsFrom (L + 1) sc.names []) outer) (execs ((B.drop 0).take 1) (envX (Str.ofString "law") sc L 252 (.ref 251) (cellsFrom (L + 1) sc.names []))) Q E { s₀ with heap := h₁, toks := tk } := by
  (k_with "left 49" => skip)
  (k_with "left 48" => skip)
  (k_with "k_lt" => (fail_if_success k_extra "left 50"); (skip))
  (k_with "call ref" => (fail_if_success k_extra "left 51"); ((k_here; k_dflt (refine' conL_use PDraws.el (draws_con hi hl) HL ?w₉k1 ?w₉k2 ?w₉k3 ?w₉k4 ?w₉k5 ?w₉kK ?w₉kI ?w₉kd ?w₉ku ?_); (case w₉k1 => k_asm); (case w₉k2 => k_asm); (case w₉k3 => k_asm); (case w₉k4 => k_asm); (case w₉k5 => k_asm); (case w₉kK => exact rfl); (case w₉kI => exact List.forall_mem_nil _); (case w₉kd => (first | omega | ktr_room)); (case w₉ku => (first | omega | ktr_units)); k_whole; intro dl₉ vs2₉ n2₉ is₉ hi2₉ hl2₉ h₉ tk₉ F₉ N₉ Z₉; (try walk_at "my aptl"); (try simp only [List.cons_append, List.nil_append] at N₉); (try dsimp only); (try k_sweep))))
  (conv at hB => rhs; whnf)
  (conv at hS => rhs; whnf)
  subst hB hS
  (try dsimp only [List.drop, List.take])
  (first | (refine letAE ?_; intro A9 E9) | skip)
  repeat' (first | (k_unfold; (try dsimp only)) | (with_reducible refine hideQ ?_; intro Q9 hQ9) | (with_reducible refine hideQ2 ?_; intro Q9 hQ9) | (with_reducible refine hQ9 _ _ ?_; try clear hQ9 Q9) | walk1 | (dsimp only; walk1) | (dsimp only; k_unfold; (try dsimp only)) | fail "no step")
  exact k _ _ _ _ _ _ _ (by k_asm) (by assumption) (by assumption) (by assumption) (by assumption) (by k_asm)
end

section
theorem seg1 {w : World} {loose : List Str} {mean : ExcName → Option Value} {mg mb : Str → Option Value} {dp un : Nat} {gd : Option (List Code)} {outer : List Env} {A₀ : Around} {base g h₁ : Heap} {L dl : Addr} {s₀ : Shared} {tk : Nat} {Q : Flow → Shared → Prop} {E : Value → Shared → Prop} {B : List Stmt} {sc : Scope} {m : Str → Option Value} {n : Nat} {oN oL oD : Obj}
    {d0 d1 d2 d3 d4 d5 d6 d7 d8 d9 da db : Int} {t0 t1 t2 t3 t4 t5 t6 t7 t8 t9 ta tb : Tok}
    (hB : B = fB (stAt 28)) (hS : sc = fS (stAt 28)) (Bl : Below A₀ base outer g) (F : Fr g L h₁ m) (X : (K9 w.params).In g) (T : Top topProg loose mean mg mb g) (hd : dp + 8 < recursionLimit) (hu : un + 12 * 8 + 9 < cLine)
    (l1 : @LT.lt Nat _ 242 L) (N : News g L h₁ [(dl, listOf #[.int d0 t0, .int d1 t1, .int d2 t2, .int d3 t3, .int d4 t4, .int d5 t5, .int d6 t6, .int d7 t7, .int d8 t8, .int d9 t9, .int da ta, .int db tb] n), (L + 1 + 1 + 1, oN), (L + 1 + 1, oL), (L + 1, oD), ((242 : Addr), tabObj #[])]) (dN : oN.data = .cell none) (dL : oL.data = .cell none) (dD : oD.data = .cell (some (.ref dl)))
    (l2 : AptL dl [(L + 1 + 1 + 1, oN), (L + 1 + 1, oL), (L + 1, oD), ((242 : Addr), tabObj #[])])
    (k : ∀ h' tk' ll oL' u0 u1 u2 u3 (R : Led), Fr g L h' m → oL'.data = .cell (some (.ref ll)) → News g L h' ((L + 1 + 1 + 1, oN) :: ((242 : Addr), tabObj #[]) :: R) → (∀ q ∈ R, @Ne Nat q.1 (L + 1 + 1 + 1)) → (∀ q ∈ R, @Ne Nat q.1 242) →
      (ll, LCg.lst [.str (leadS (d8.fmod 3) (1 + (d8.fdiv 3).fmod 3) ((d8.fdiv 9).fmod 3)) u0, .str (leadS (d9.fmod 3) (1 + (d9.fdiv 3).fmod 3) ((d9.fdiv 9).fmod 3)) u1, .str (leadS (da.fmod 3) (1 + (da.fdiv 3).fmod 3) ((da.fdiv 9).fmod 3)) u2, .str (leadS (db.fmod 3) (1 + (db.fdiv 3).fmod 3) ((db.fdiv 9).fmod 3)) u3]) ∈ R →
      (dl, listOf #[.int d0 t0, .int d1 t1, .int d2 t2, .int d3 t3, .int d4 t4, .int d5 t5, .int d6 t6, .int d7 t7, .int d8 t8, .int d9 t9, .int da ta, .int db tb] n) ∈ R → (L + 1 + 1, oL') ∈ R → (L + 1, oD) ∈ R → Q .next { s₀ with heap := h', toks := tk' }) :
    wpAny (model PP w) (ktrTop dp un gd (Str.ofString "law") sc L 252 (.ref 251) (cellsFrom (L + 1) sc.names []) outer) (execs ((B.drop 1).take 1) (envX (Str.ofString "law") sc L 252 (.ref 251) (cellsFrom (L + 1) sc.names []))) Q E { s₀ with heap := h₁, toks := tk } := by
  (k_with "left 51" => skip)
  (k_with "call ref" => (fail_if_success k_extra "left 52"); ((k_here; k_dflt (refine' con_use0 PStr.el (lead_con (R := [])) ?w₉k1 ?w₉k2 ?w₉k3 ?w₉k4 ?w₉k5 ?w₉kK ?w₉kI ?w₉kd ?w₉ku ?_); (case w₉k1 => k_asm); (case w₉k2 => k_asm); (case w₉k3 => k_asm); (case w₉k4 => k_asm); (case w₉k5 => k_asm); (case w₉kK => first | exact rfl | assumption); (case w₉kI => first | (intro _ hp₉; replace hp₉ := hsub _ hp₉; (repeat' first | exact hp₉ | refine List.Mem.tail _ ?_); done) | walk_at "my sub"); (case w₉kd => (first | omega | ktr_room)); (case w₉ku => (first | omega | ktr_units)); k_whole; intro t9₉ h₉ tk₉ F₉ N₉; (try dsimp only); (try k_sweep))))
  (conv at hB => rhs; whnf)
  (conv at hS => rhs; whnf)
  subst hB hS
  (try dsimp only [List.drop, List.take])
  (first | (refine letAE ?_; intro A9 E9) | skip)
  repeat' (first | (k_unfold; (try dsimp only)) | (with_reducible refine hideQ ?_; intro Q9 hQ9) | (with_reducible refine hideQ2 ?_; intro Q9 hQ9) | (with_reducible refine hQ9 _ _ ?_; try clear hQ9 Q9) | ((fail_if_success (with_reducible show LCg.CompSrc _ _ _ _ _ _ _ _ _ _ _ _ _ _)); walk1) | ((fail_if_success (with_reducible show LCg.CompSrc _ _ _ _ _ _ _ _ _ _ _ _ _ _)); dsimp only; walk1) | (dsimp only; k_unfold; (try dsimp only)) | fail "no step")
  rename News _ _ _ _ => N3
  rename Fr _ _ _ _ => F3
  exact k _ _ _ _ _ _ _ _ _ F3 (by assumption) (seg1_sort N3) (by (first | walk_at "my apt1" | fail "my apt1")) (by (first | walk_at "my apt1" | fail "my apt1")) (.head _) (.tail _ (.tail _ (.head _))) (.tail _ (.tail _ (.tail _ (.head _)))) (.tail _ (.tail _ (.tail _ (.tail _ (.head _)))))
end

end
section
theorem seg2_sort {h₀ h : Heap} {L : Addr} {a I C D e t : Addr × Obj} {R : Led} (N : News h₀ L h (a :: I :: C :: D :: e :: t :: R)) : News h₀ L h (I :: C :: D :: e :: t :: a :: R) := fun p hp => N p (by
  simp only [List.mem_cons] at hp ⊢
  rcases hp with h | h | h | h | h | h | h <;> simp [h])
theorem seg2_swap {h₀ h : Heap} {L : Addr} {a n t : Addr × Obj} {R : Led} (N : News h₀ L h (a :: n :: t :: R)) : News h₀ L h (n :: t :: a :: R) := fun p hp => N p (by
  simp only [List.mem_cons] at hp ⊢
  rcases hp with h | h | h | h <;> simp [h])

section
theorem seg2 {w : World} {loose : List Str} {mean : ExcName → Option Value} {mg mb : Str → Option Value} {dp un : Nat} {gd : Option (List Code)} {outer : List Env} {A₀ : Around} {base g h₁ : Heap} {L ll : Addr} {s₀ : Shared} {tk : Nat} {Q : Flow → Shared → Prop} {E : Value → Shared → Prop} {B : List Stmt} {sc : Scope} {m : Str → Option Value} {oN oL : Obj} {R : Led}
    {xs : Nat → Str} {us : Nat → Tok} {c : Nat → Int → Int}
    (hB : B = fB (stAt 28)) (hS : sc = fS (stAt 28)) (Bl : Below A₀ base outer g) (F : Fr g L h₁ m) (X : (K9 w.params).In g) (T : Top topProg loose mean mg mb g) (hd : dp + 8 < recursionLimit) (hu : un + 12 * 8 + 9 < cLine)
    (N : News g L h₁ ((L + 1 + 1 + 1, oN) :: ((242 : Addr), tabObj #[]) :: R)) (dL : oL.data = .cell (some (.ref ll))) (mL : (L + 1 + 1, oL) ∈ R) (mll : (ll, LCg.lst [.str (xs 0) (us 0), .str (xs 1) (us 1), .str (xs 2) (us 2), .str (xs 3) (us 3)]) ∈ R)
    (hc : ∀ (i : Nat) (size : Int) (t ts : Tok), 0 < size → Con w 1 185 [.str (xs i) t, .int size ts] [] [] (PInt (c i size)))
    (hR3 : ∀ q ∈ R, @Ne Nat q.1 (L + 1 + 1 + 1)) (hR2 : ∀ q ∈ R, @Ne Nat q.1 242)
    (k : ∀ h' tk' (R' : Led) wl (wo : Nat → Addr), Fr g L h' (fun y => if y = Str.ofString "walked" then some (.ref wl) else m y) → News g L h' ((L + 1 + 1 + 1, oN) :: ((242 : Addr), tabObj #[]) :: R') → (∀ p ∈ R, p ∈ R') → (∀ q ∈ R', @Ne Nat q.1 (L + 1 + 1 + 1)) → (∀ q ∈ R', @Ne Nat q.1 242) →
      (wl, LCg.lst [.ref (wo 0), .ref (wo 1), .ref (wo 2), .ref (wo 3)]) ∈ R' → (∀ i, i < 4 → ∃ z0 z1 z2 z3, (wo i, tupObj #[.int (c i 1) z0, .int (c i 2) z1, .int (c i 3) z2, .int (i : Int) z3]) ∈ R') → Q .next { s₀ with heap := h', toks := tk' }) :
    wpAny (model PP w) (ktrTop dp un gd (Str.ofString "law") sc L 252 (.ref 251) (cellsFrom (L + 1) sc.names []) outer) (execs ((B.drop 2).take 1) (envX (Str.ofString "law") sc L 252 (.ref 251) (cellsFrom (L + 1) sc.names []))) Q E { s₀ with heap := h₁, toks := tk } := by
  (k_with "left 52" => skip)
  (k_with "left 50" => skip)
  (k_with "CompSrc" => (fail_if_success k_extra "left 54"); (fail "stop"))
  (k_with "exec Assign cons ListComp" => (fail_if_success k_extra "left 54"); ((k_here; k_dflt (refine LCg.Assign_ListComp_U (F₀ := by k_asm) (by rfl) (by with_unfolding_all rfl) (by with_unfolding_all rfl) (by decide) (by rfl) (by decide) (by rfl) (by rfl) (by rfl) ?_))))
  (k_with "subscriptTail Name Name ref int" => (fail_if_success k_extra "left 54"); ((k_here; (with_reducible show wpAny _ _ (subscriptTail _ _ (Value.ref _) (Value.int _ _)) _ _ _); k_dflt (refine' item_sym ?w₉N ?w₉m ?w₉a ?w₉b hnx ?_; (case w₉N => k_asm); (case w₉m => k_mem); (case w₉a => omega); (case w₉b => omega); k_whole))))
  (k_with "call ref" => (fail_if_success k_extra "left 54"); ((k_here; k_dflt (refine' con_use0 PInt.el (hc i _ _ _ (by decide)) ?w₉k1 ?w₉k2 ?w₉k3 ?w₉k4 ?w₉k5 ?w₉kK ?w₉kI ?w₉kd ?w₉ku ?_); (case w₉k1 => k_asm); (case w₉k2 => k_asm); (case w₉k3 => k_asm); (case w₉k4 => k_asm); (case w₉k5 => k_asm); (case w₉kK => first | exact rfl | assumption); (case w₉kI => exact all_nil); (case w₉kd => (first | omega | ktr_room)); (case w₉ku => (first | omega | ktr_units)); k_whole; intro t9₉ h₉ tk₉ F₉ N₉; (try dsimp only); (try k_sweep))))
  (conv at hB => rhs; whnf)
  (conv at hS => rhs; whnf)
  subst hB hS
  (try dsimp only [List.drop, List.take])
  (first | (refine letAE ?_; intro A9 E9) | skip)
  repeat' (first | (k_unfold; (try dsimp only)) | (with_reducible refine hideQ ?_; intro Q9 hQ9) | (with_reducible refine hideQ2 ?_; intro Q9 hQ9) | (with_reducible refine hQ9 _ _ ?_; try clear hQ9 Q9) | ((fail_if_success (with_reducible show LCg.CompSrc _ _ _ _ _ _ _ _ _ _ _ _ _ _)); walk1) | ((fail_if_success (with_reducible show LCg.CompSrc _ _ _ _ _ _ _ _ _ _ _ _ _ _)); dsimp only; walk1) | (dsimp only; k_unfold; (try dsimp only)) | fail "no step")
  refine LCg.CompSrc.range (n := 4) (by rfl) (by k_asm) (by k_asm) (by assumption) (by decide) (by decide) (by rw [sizeLine_eq]; decide) (fun g' => ?_)
  refine comp_refs2 (fun i t' => .int (0 + (i : Int)) t') (fun R' j a => ∃ z0 z1 z2 z3, (a, tupObj #[.int (c j 1) z0, .int (c j 2) z1, .int (c j 3) z2, .int (j : Int) z3]) ∈ R') (fun i v _ hv => hv) (fun R R' j a k h => let ⟨z0, z1, z2, z3, q⟩ := h; ⟨z0, z1, z2, z3, k _ q⟩) hR3 hR2 ?st1 ?fn1
  (case st1 =>
    intro i R' ys hi hsub hR3b hR2b t9 I2 oI oC C D m2 h2 tk3 E2 hC hxx F3 N3 off
    have hi' : i < 4 := hi
    have mL' := hsub _ mL
    have mll' := hsub _ mll
    have hnx : [Value.str (xs 0) (us 0), .str (xs 1) (us 1), .str (xs 2) (us 2), .str (xs 3) (us 3)][(0 + (i : Int)).toNat]? = some (.str (xs i) (us i)) := by
      have : i = 0 ∨ i = 1 ∨ i = 2 ∨ i = 3 := by omega
      rcases this with rfl | rfl | rfl | rfl <;> rfl
    (try dsimp only)
    repeat' (first | ((fail_if_success (with_reducible show LCg.CompEnd _ _ _ _ _ _ _ _ _ _ _ _ _ _)); (fail_if_success (with_reducible show LCg.CompSrc _ _ _ _ _ _ _ _ _ _ _ _ _ _)); first | (k_unfold; (try dsimp only)) | (with_reducible refine hideQ ?_; intro Q9 hQ9) | (with_reducible refine hideQ2 ?_; intro Q9 hQ9) | (with_reducible refine hQ9 _ _ ?_; try clear hQ9 Q9) | walk1 | (dsimp only; walk1) | (dsimp only; k_unfold; (try dsimp only))) | fail "no step")
    rename News _ _ _ _ => N5
    rename Fr _ _ _ _ => F5
    rename _ ∧ _ ∧ _ ∧ _ ∧ _ ∧ AllLt _ _ => lB
    refine LCg.CompEnd.intro F5 (seg2_sort N5) _ (fun _ h => h) ⟨off.1, off.2.1, ⟨Nat.ne_of_gt lB.1, Nat.ne_of_gt lB.2.1, Nat.ne_of_gt lB.2.2.1⟩, off.2.2⟩ trivial (.mk _ _ (fun p hp => .tail _ hp) (all_cons (Nat.ne_of_gt lB.2.2.2.1) hR3b) (all_cons (Nat.ne_of_gt lB.2.2.2.2.1) hR2b) ?w)
    have e9 : (0 : Int) + (i : Int) = (i : Int) := Int.zero_add _
    rw [e9]
    exact ⟨_, _, _, _, .head _⟩)
  (case fn1 =>
    intro R' co hsub hR3b hR2b hcs
    repeat' (first | (k_unfold; (try dsimp only)) | (with_reducible refine hideQ ?_; intro Q9 hQ9) | (with_reducible refine hideQ2 ?_; intro Q9 hQ9) | (with_reducible refine hQ9 _ _ ?_; try clear hQ9 Q9) | ((fail_if_success (with_reducible show LCg.CompSrc _ _ _ _ _ _ _ _ _ _ _ _ _ _)); walk1) | ((fail_if_success (with_reducible show LCg.CompSrc _ _ _ _ _ _ _ _ _ _ _ _ _ _)); dsimp only; walk1) | (dsimp only; k_unfold; (try dsimp only)) | fail "no step")
    rename News _ _ _ _ => N5
    rename Fr _ _ _ _ => F5
    rename AptL _ _ => o9
    exact k _ _ _ _ co F5 (seg2_swap N5) (fun p hp => .tail _ (hsub p hp)) (all_cons (fun e => o9.get _ (.head _) e.symm) hR3b) (all_cons (fun e => o9.get _ (.tail _ (.head _)) e.symm) hR2b) (.head _) fun j hj => let ⟨z0, z1, z2, z3, q⟩ := hcs j hj; ⟨z0, z1, z2, z3, .tail _ q⟩)
end

end
section
theorem wsAt_of {R : Led} {o dx nm cn : Addr} {x : Str} {t : Tok} {cs : List Int} {b n nt : Int} {h0 h1 h2 h3 h4 : Int} {k0 k1 k2 k3 k4 tb tn tt : Tok} {vs : List Value} (m0 : (o, instObj 153 dx) ∈ R) (m1 : (nm, tupObj #[.ref cn, .int b tb]) ∈ R) (m2 : (cn, tupObj (List.toArray vs)) ∈ R)
    (m3 : (dx, dictOf [⟨h0, .str (Str.ofString "raw") k0, .str x t⟩, ⟨h1, .str (Str.ofString "n") k1, .int n tn⟩, ⟨h2, .str (Str.ofString "nt") k2, .int nt tt⟩, ⟨h3, .str (Str.ofString "norm") k3, .ref nm⟩, ⟨h4, .str (Str.ofString "is_simple") k4, .bool (decide ((cs.length : Int) ≤ 1))⟩] 5) ∈ R) (hi : IntsAre vs cs) (hl : cs.length ≤ 10) : WsAt R o cs b n nt (decide ((cs.length : Int) ≤ 1)) :=
  ⟨dx, nm, cn, fun | 0 => h0 | 1 => h1 | 2 => h2 | 3 => h3 | _ => h4, fun | 0 => k0 | 1 => k1 | 2 => k2 | 3 => k3 | _ => k4, vs, tb, tn, tt, x, t, m0, m3, m1, m2, hi, by rw [ints_len hi]; exact hl⟩
theorem ws_swap {h₀ h : Heap} {L : Addr} {a b : Addr × Obj} {R : Led} (N : News h₀ L h (a :: b :: R)) : News h₀ L h ([b] ++ (a :: R)) := fun p hp => N p (by
  simp only [List.mem_cons, List.cons_append, List.nil_append] at hp ⊢
  rcases hp with h | h | h <;> simp [h])
theorem ws_sort {h₀ h : Heap} {L : Addr} {a b c x I C D n t : Addr × Obj} {R' : Led} (N : News h₀ L h (a :: b :: c :: x :: I :: C :: D :: n :: t :: R')) : News h₀ L h (I :: C :: D :: n :: t :: a :: b :: c :: x :: R') := fun p hp => N p (by
  simp only [List.mem_cons] at hp ⊢
  rcases hp with h | h | h | h | h | h | h | h | h | h <;> simp [h])
theorem ws_off {a b c x I C D n t : Addr × Obj} {R' : Led} (off : LCg.Off3 I.1 C.1 D.1 (n :: t :: R')) (ha : AptL a.1 (x :: I :: C :: D :: n :: t :: R')) (hb : AptL b.1 (x :: I :: C :: D :: n :: t :: R')) (hc : AptL c.1 (x :: I :: C :: D :: n :: t :: R')) (hx : ∀ p ∈ I :: C :: D :: n :: t :: R', p.1 < x.1) :
    LCg.Off3 I.1 C.1 D.1 (n :: t :: a :: b :: c :: x :: R') := by
  have g : ∀ {y : Addr × Obj}, AptL y.1 (x :: I :: C :: D :: n :: t :: R') → @Ne Nat y.1 I.1 ∧ @Ne Nat y.1 C.1 ∧ @Ne Nat y.1 D.1 := fun h => ⟨fun e => h.get I (by simp) e.symm, fun e => h.get C (by simp) e.symm, fun e => h.get D (by simp) e.symm⟩
  exact ⟨off.1, off.2.1, g ha, g hb, g hc, ⟨Nat.ne_of_gt (hx I (by simp)), Nat.ne_of_gt (hx C (by simp)), Nat.ne_of_gt (hx D (by simp))⟩, off.2.2⟩
theorem ws_ne {a b c x I C D n t y : Addr × Obj} {R' : Led} (hy : y = n ∨ y = t) (ha : AptL a.1 (x :: I :: C :: D :: n :: t :: R')) (hb : AptL b.1 (x :: I :: C :: D :: n :: t :: R')) (hc : AptL c.1 (x :: I :: C :: D :: n :: t :: R')) (hx : ∀ p ∈ I :: C :: D :: n :: t :: R', p.1 < x.1) (h : ∀ q ∈ R', @Ne Nat q.1 y.1) :
    ∀ q ∈ a :: b :: c :: x :: R', @Ne Nat q.1 y.1 := by
  have hm : y ∈ I :: C :: D :: n :: t :: R' := by rcases hy with rfl | rfl <;> simp
  exact all_cons (fun e => ha.get y (.tail _ hm) e.symm) (all_cons (fun e => hb.get y (.tail _ hm) e.symm) (all_cons (fun e => hc.get y (.tail _ hm) e.symm) (all_cons (Nat.ne_of_gt (hx y hm)) (h))))
theorem seg3_sort {h₀ h : Heap} {L : Addr} {a n t : Addr × Obj} {R : Led} (N : News h₀ L h (a :: n :: t :: R)) : News h₀ L h (t :: a :: n :: R) := fun p hp => N p (by
  simp only [List.mem_cons] at hp ⊢
  rcases hp with h | h | h | h <;> simp [h])
theorem lt_up {R : Led} {d x : Addr} (h : ∀ p ∈ R, p.1 < d) (e : d < x) : ∀ p ∈ R, p.1 < x := fun p hp => Nat.lt_trans (h p hp) e

section
theorem seg3 {w : World} {loose : List Str} {mean : ExcName → Option Value} {mg mb : Str → Option Value} {dp un : Nat} {gd : Option (List Code)} {outer : List Env} {A₀ : Around} {base g h₁ : Heap} {L ll : Addr} {s₀ : Shared} {tk : Nat} {Q : Flow → Shared → Prop} {E : Value → Shared → Prop} {B : List Stmt} {sc : Scope} {m : Str → Option Value} {oN oL : Obj} {R : Led}
    {xs : Nat → Str} {us : Nat → Tok} {cs : Nat → List Int} {b n nt : Nat → Int} {ls : Nat → List Str}
    (hB : B = fB (stAt 28)) (hS : sc = fS (stAt 28)) (Bl : Below A₀ base outer g) (F : Fr g L h₁ m) (X : (K9 w.params).In g) (T : Top topProg loose mean mg mb g) (hd : dp + 8 < recursionLimit) (hu : un + 12 * 8 + 9 < cLine)
    (h242 : @LT.lt Nat _ 242 L) (N : News g L h₁ ((L + 1 + 1 + 1, oN) :: ((242 : Addr), tabObj #[]) :: R)) (dN : oN.data = .cell none) (dL : oL.data = .cell (some (.ref ll))) (mL : (L + 1 + 1, oL) ∈ R) (mll : (ll, LCg.lst [.str (xs 0) (us 0), .str (xs 1) (us 1), .str (xs 2) (us 2), .str (xs 3) (us 3)]) ∈ R)
    (hx : ∀ i, i < 4 → (xs i).cps.toList.map (fun c => (⟨#[c]⟩ : Str)) = ls i) (ho : ∀ i, i < 4 → okW (cs i, b i, n i, nt i) (ls i) [] 0 0 0 = true) (hz : ∀ i, i < 4 → (cs i).length ≤ 10)
    (hR3 : ∀ q ∈ R, @Ne Nat q.1 (L + 1 + 1 + 1)) (hR2 : ∀ q ∈ R, @Ne Nat q.1 242)
    (k : ∀ h' tk' (R' : Led) nl oN' (no : Nat → Addr), Fr g L h' m → News g L h' (((242 : Addr), tabObj #[]) :: R') → (∀ p ∈ R, p ∈ R') → (∀ q ∈ R', @Ne Nat q.1 242) → oN'.data = .cell (some (.ref nl)) → (L + 1 + 1 + 1, oN') ∈ R' → (nl, LCg.lst [.ref (no 0), .ref (no 1), .ref (no 2), .ref (no 3)]) ∈ R' →
      (∀ i, i < 4 → WsAt R' (no i) (cs i) (b i) (n i) (nt i) (decide (((cs i).length : Int) ≤ 1))) → Q .next { s₀ with heap := h', toks := tk' }) :
    wpAny (model PP w) (ktrTop dp un gd (Str.ofString "law") sc L 252 (.ref 251) (cellsFrom (L + 1) sc.names []) outer) (execs ((B.drop 3).take 1) (envX (Str.ofString "law") sc L 252 (.ref 251) (cellsFrom (L + 1) sc.names []))) Q E { s₀ with heap := h₁, toks := tk } := by
  (k_with "left 54" => skip)
  (k_with "left 53" => skip)
  (k_with "k_all" => (fail_if_success k_extra "left 56"); (exact ap))
  (k_with "CompSrc" => (fail_if_success k_extra "left 56"); (fail "stop"))
  (k_with "eval ListComp" => (fail_if_success k_extra "left 56"); ((k_here; k_dflt (refine LCg.ListComp_U (F₀ := by k_asm) (by with_unfolding_all rfl) (by decide) (by rfl) (by decide) (by rfl) ?_))))
  (k_with "call ref" => (fail_if_success k_extra "left 56"); ((k_here; k_dflt (refine' call_cls ?w₉k1 ?w₉k2 ?w₉k3 ?w₉k4 ?w₉k5 ?w₉k6 ?_); (case w₉k1 => k_asm); (case w₉k2 => k_asm); (case w₉k3 => k_asm); (case w₉k4 => k_is); (case w₉k5 => k_is); (case w₉k6 => k_is); k_whole; intro x₉ d₉ h₉ F₉ N₉ l1₉ l2₉; (replace N₉ := ws_swap N₉); (refine' conC_use PWinit.el (winit_con hz1 hx1 ho1 (List.Mem.head _) (fun q hq => by rw [List.mem_singleton.mp hq]; exact Nat.ne_of_gt l2₉)) ?w₉k1 ?w₉k2 ?w₉k3 ?w₉k4 ?w₉k5 ?w₉kh ?w₉kA ?w₉kf ?w₉kK ?w₉kI ?w₉kM ?w₉kd ?w₉ku ?_); (case w₉k1 => k_asm); (case w₉k2 => k_asm); (case w₉k3 => k_asm); (case w₉k4 => k_asm); (case w₉k5 => k_asm); (case w₉kh => k_dflt (exact rfl)); (case w₉kA => k_dflt (exact rfl)); (case w₉kf => k_dflt (exact rfl)); (case w₉kK => first | exact rfl | assumption); (case w₉kI => exact List.forall_mem_singleton.mpr (List.Mem.head _)); (case w₉kM => exact List.forall_mem_singleton.mpr (all_cons (Nat.ne_of_gt l2₉) (fun q hq => Nat.ne_of_lt (l1₉ q hq)))); (case w₉kd => (first | omega | ktr_room)); (case w₉ku => first | (first | omega | ktr_units) | (k_dflt (show un + 1 + 12 * 1 < cLine); omega) | (k_dflt (show un + 2 + 12 * 1 < cLine); omega) | (k_dflt (show un + 3 + 12 * 1 < cLine); omega)); intro nm₉ cn₉ h0₉ h1₉ h2₉ h3₉ h4₉ k0₉ k1₉ k2₉ k3₉ k4₉ vs₉ tb₉ tn₉ tt₉ hi₉ h₉ tk₉ F₉ N₉ Z₉; (have ap1 := Z₉ _ (List.Mem.head _)); (have ap2 := Z₉ _ (List.Mem.tail _ (List.Mem.head _))); (have ap3 := Z₉ _ (List.Mem.tail _ (List.Mem.tail _ (List.Mem.head _)))); (have ap4 := lt_up l1₉ l2₉); clear Z₉; (try simp only [List.cons_append, List.nil_append] at N₉); (try dsimp only [InitBack]); (try refine ⟨rfl, ?_⟩); (try dsimp only); (try k_sweep))))
  (conv at hB => rhs; whnf)
  (conv at hS => rhs; whnf)
  subst hB hS
  (try dsimp only [List.drop, List.take])
  skip
  repeat' (first | (k_unfold; (try dsimp only)) | (with_reducible refine hideQ ?_; intro Q9 hQ9) | (with_reducible refine hideQ2 ?_; intro Q9 hQ9) | (with_reducible refine hQ9 _ _ ?_; try clear hQ9 Q9) | ((fail_if_success (with_reducible show LCg.CompSrc _ _ _ _ _ _ _ _ _ _ _ _ _ _)); walk1) | ((fail_if_success (with_reducible show LCg.CompSrc _ _ _ _ _ _ _ _ _ _ _ _ _ _)); dsimp only; walk1) | (dsimp only; k_unfold; (try dsimp only)) | fail "no step")
  refine LCg.CompSrc.ledger (by rfl) (by k_asm) (by k_asm) (.tail _ (.tail _ mll)) (by show 4 ≤ _; rw [sizeLine_eq]; decide) (fun g' => ?_)
  refine comp_refs2 (fun i _ => .str (xs i) (us i)) (fun R' j a => WsAt R' a (cs j) (b j) (n j) (nt j) (decide (((cs j).length : Int) ≤ 1))) (fun i v hi hv => ?vf) (fun R R' j a k h => h.mono k) hR3 hR2 ?st1 ?fn1
  (case vf =>
    have q : #[Value.str (xs 0) (us 0), .str (xs 1) (us 1), .str (xs 2) (us 2), .str (xs 3) (us 3)][i]? = some v := hv
    have hi' : i < 4 := hi
    have : i = 0 ∨ i = 1 ∨ i = 2 ∨ i = 3 := by omega
    rcases this with rfl | rfl | rfl | rfl <;> exact ⟨0, (Option.some.inj q).symm⟩)
  (case st1 =>
    intro i R' ys hi hsub hR3b hR2b _ I2 oI oC C D m2 h2 tk3 E2 hC hxx F3 N3 off
    have hi' : i < 4 := hi
    have hz1 := hz i hi'
    have hx1 := hx i hi'
    have ho1 := ho i hi'
    have mL' := hsub _ mL
    (try dsimp only)
    repeat' (first | (k_unfold; (try dsimp only)) | (with_reducible refine hideQ ?_; intro Q9 hQ9) | (with_reducible refine hideQ2 ?_; intro Q9 hQ9) | (with_reducible refine hQ9 _ _ ?_; try clear hQ9 Q9) | ((fail_if_success (with_reducible show LCg.CompSrc _ _ _ _ _ _ _ _ _ _ _ _ _ _)); walk1) | ((fail_if_success (with_reducible show LCg.CompSrc _ _ _ _ _ _ _ _ _ _ _ _ _ _)); dsimp only; walk1) | (dsimp only; k_unfold; (try dsimp only)) | fail "no step")
    rename News _ _ _ _ => N5
    rename Fr _ _ _ _ => F5
    exact LCg.CompEnd.intro F5 (ws_sort N5) _ (fun _ h => h) (ws_off off ap1 ap2 ap3 ap4) (.inr ⟨_, .tail _ (.tail _ (.tail _ (.tail _ (.tail _ (.tail _ (hsub _ mll)))))), rfl, _, rfl⟩)
      (.mk _ _ (fun p hp => .tail _ (.tail _ (.tail _ (.tail _ hp)))) (ws_ne (.inl rfl) ap1 ap2 ap3 ap4 hR3b) (ws_ne (.inr rfl) ap1 ap2 ap3 ap4 hR2b) (wsAt_of (.tail _ (.tail _ (.tail _ (.head _)))) (.head _) (.tail _ (.head _)) (.tail _ (.tail _ (.head _))) (by assumption) hz1)))
  (case fn1 =>
    intro R' no hsub hR3b hR2b hws
    have ap : ∀ q ∈ ((242 : Addr), tabObj #[]) :: R', @Ne Nat q.1 (L + 1 + 1 + 1) := all_cons (Nat.ne_of_lt (Nat.lt_succ_of_lt (Nat.lt_succ_of_lt (Nat.lt_succ_of_lt h242)))) (hR3b)
    repeat' (first | (k_unfold; (try dsimp only)) | (with_reducible refine hideQ ?_; intro Q9 hQ9) | (with_reducible refine hideQ2 ?_; intro Q9 hQ9) | (with_reducible refine hQ9 _ _ ?_; try clear hQ9 Q9) | ((fail_if_success (with_reducible show LCg.CompSrc _ _ _ _ _ _ _ _ _ _ _ _ _ _)); walk1) | ((fail_if_success (with_reducible show LCg.CompSrc _ _ _ _ _ _ _ _ _ _ _ _ _ _)); dsimp only; walk1) | (dsimp only; k_unfold; (try dsimp only)) | fail "no step")
    rename News _ _ _ _ => N5
    rename Fr _ _ _ _ => F5
    rename AptL _ _ => o9
    exact k _ _ _ _ _ no F5 (seg3_sort N5) (fun p hp => .tail _ (.tail _ (hsub p hp))) (all_cons (fun e => o9.get _ (.tail _ (.head _)) e.symm) (all_cons (Nat.ne_of_gt (Nat.lt_succ_of_lt (Nat.lt_succ_of_lt (Nat.lt_succ_of_lt h242)))) (hR2b))) (by assumption) (.tail _ (.head _)) (.head _) (fun j hj => (hws j hj).mono fun p hp => .tail _ (.tail _ hp)))
end

end
section
theorem seg4_swap {h₀ h : Heap} {L : Addr} {a t : Addr × Obj} {R : Led} (N : News h₀ L h (a :: t :: R)) : News h₀ L h (t :: a :: R) := fun p hp => N p (by
  simp only [List.mem_cons] at hp ⊢
  rcases hp with h | h | h <;> simp [h])
theorem seg4_sort {h₀ h : Heap} {L : Addr} {a I C D t : Addr × Obj} {R : Led} (N : News h₀ L h (a :: I :: C :: D :: t :: R)) : News h₀ L h (I :: C :: D :: t :: a :: R) := fun p hp => N p (by
  simp only [List.mem_cons] at hp ⊢
  rcases hp with h | h | h | h | h | h <;> simp [h])

section
theorem seg4 {w : World} {loose : List Str} {mean : ExcName → Option Value} {mg mb : Str → Option Value} {dp un : Nat} {gd : Option (List Code)} {outer : List Env} {A₀ : Around} {base g h₁ : Heap} {L nl : Addr} {s₀ : Shared} {tk : Nat} {Q : Flow → Shared → Prop} {E : Value → Shared → Prop} {B : List Stmt} {sc : Scope} {m : Str → Option Value} {oN : Obj} {R : Led}
    {no : Nat → Addr} {cs : Nat → List Int} {b n nt : Nat → Int} {sm : Nat → Bool}
    (hB : B = fB (stAt 28)) (hS : sc = fS (stAt 28)) (Bl : Below A₀ base outer g) (F : Fr g L h₁ m) (X : (K9 w.params).In g) (T : Top topProg loose mean mg mb g) (hd : dp + 8 < recursionLimit) (hu : un + 12 * 8 + 9 < cLine)
    (N : News g L h₁ (((242 : Addr), tabObj #[]) :: R)) (dN : oN.data = .cell (some (.ref nl))) (mN : (L + 1 + 1 + 1, oN) ∈ R) (mnl : (nl, LCg.lst [.ref (no 0), .ref (no 1), .ref (no 2), .ref (no 3)]) ∈ R)
    (hws : ∀ i, i < 4 → WsAt R (no i) (cs i) (b i) (n i) (nt i) (sm i)) (hR2 : ∀ q ∈ R, @Ne Nat q.1 242)
    (k : ∀ h' tk' (R' : Led) col (co : Nat → Addr), Fr g L h' (fun y => if y = Str.ofString "columns" then some (.ref col) else m y) → News g L h' (((242 : Addr), tabObj #[]) :: R') → (∀ p ∈ R, p ∈ R') → (∀ q ∈ R', @Ne Nat q.1 242) → (col, LCg.lst [.ref (co 0), .ref (co 1), .ref (co 2), .ref (co 3)]) ∈ R' →
      (∀ i, i < 4 → ∃ z0 z1 z2 z3, (co i, tupObj #[.int (indV (cs i) (b i) (nt i) 1) z0, .int (indV (cs i) (b i) (nt i) 2) z1, .int (indV (cs i) (b i) (nt i) 3) z2, .int (i : Int) z3]) ∈ R') → Q .next { s₀ with heap := h', toks := tk' }) :
    wpAny (model PP w) (ktrTop dp un gd (Str.ofString "law") sc L 252 (.ref 251) (cellsFrom (L + 1) sc.names []) outer) (execs ((B.drop 4).take 1) (envX (Str.ofString "law") sc L 252 (.ref 251) (cellsFrom (L + 1) sc.names []))) Q E { s₀ with heap := h₁, toks := tk } := by
  (k_with "left 56" => skip)
  (k_with "left 55" => skip)
  (k_with "CompSrc" => (fail_if_success k_extra "left 58"); (fail "stop"))
  (k_with "exec Assign cons ListComp" => (fail_if_success k_extra "left 58"); ((k_here; k_dflt (refine LCg.Assign_ListComp_U (F₀ := by k_asm) (by rfl) (by with_unfolding_all rfl) (by with_unfolding_all rfl) (by decide) (by rfl) (by decide) (by rfl) (by rfl) (by rfl) ?_))))
  (k_with "subscriptTail Name Name ref int" => (fail_if_success k_extra "left 58"); ((k_here; (with_reducible show wpAny _ _ (subscriptTail _ _ (Value.ref _) (Value.int _ _)) _ _ _); k_dflt (refine' item_sym ?w₉N ?w₉m ?w₉a ?w₉b ?w₉x ?_; (case w₉N => k_asm); (case w₉m => k_mem); (case w₉a => omega); (case w₉b => omega); (case w₉x => exact hnx); k_whole))))
  (k_with "call ref" => (fail_if_success k_extra "left 58"); (((try dsimp only [List.append_nil]); k_dflt (refine' con_use0 PInt.el (indent_con hw1 (by omega)) ?w₉k1 ?w₉k2 ?w₉k3 ?w₉k4 ?w₉k5 ?w₉kK ?w₉kI ?w₉kd ?w₉ku ?_); (case w₉k1 => k_asm); (case w₉k2 => k_asm); (case w₉k3 => k_asm); (case w₉k4 => k_asm); (case w₉k5 => k_asm); (case w₉kK => first | exact rfl | assumption); (case w₉kI => walk_at "my suf"); (case w₉kd => (first | omega | ktr_room)); (case w₉ku => (first | omega | ktr_units)); k_whole; intro t9₉ h₉ tk₉ F₉ N₉; (try dsimp only); (try k_sweep))))
  (conv at hB => rhs; whnf)
  (conv at hS => rhs; whnf)
  subst hB hS
  (try dsimp only [List.drop, List.take])
  (first | (refine letAE ?_; intro A9 E9) | skip)
  repeat' (first | (k_unfold; (try dsimp only)) | (with_reducible refine hideQ ?_; intro Q9 hQ9) | (with_reducible refine hideQ2 ?_; intro Q9 hQ9) | (with_reducible refine hQ9 _ _ ?_; try clear hQ9 Q9) | ((fail_if_success (with_reducible show LCg.CompSrc _ _ _ _ _ _ _ _ _ _ _ _ _ _)); walk1) | ((fail_if_success (with_reducible show LCg.CompSrc _ _ _ _ _ _ _ _ _ _ _ _ _ _)); dsimp only; walk1) | (dsimp only; k_unfold; (try dsimp only)) | fail "no step")
  refine LCg.CompSrc.range (n := 4) (by rfl) (by k_asm) (by k_asm) (by assumption) (by decide) (by decide) (by rw [sizeLine_eq]; decide) (fun g' => ?_)
  refine comp_refs (fun R' j a => ∃ z0 z1 z2 z3, (a, tupObj #[.int (indV (cs j) (b j) (nt j) 1) z0, .int (indV (cs j) (b j) (nt j) 2) z1, .int (indV (cs j) (b j) (nt j) 3) z2, .int (j : Int) z3]) ∈ R') (fun R R' j a k h => let ⟨z0, z1, z2, z3, q⟩ := h; ⟨z0, z1, z2, z3, k _ q⟩) hR2 ?st1 ?fn1
  (case st1 =>
    intro i R' ys hi hsub hR2b t9 I2 oI oC C D m2 h2 tk3 E2 hC hxx F3 N3 off
    have hi' : i < 4 := hi
    have hw1 := (hws i hi').mono hsub
    obtain ⟨dx, nm, cn, hs, kk, vs, tb, tn, tt, raw, tr, q1, q2, _⟩ := id hw1
    have mN' := hsub _ mN
    have mnl' := hsub _ mnl
    have hnx : [Value.ref (no 0), .ref (no 1), .ref (no 2), .ref (no 3)][(0 + (i : Int)).toNat]? = some (.ref (no i)) := by
      have : i = 0 ∨ i = 1 ∨ i = 2 ∨ i = 3 := by omega
      rcases this with rfl | rfl | rfl | rfl <;> rfl
    (try dsimp only)
    repeat' (first | ((fail_if_success (with_reducible show LCg.CompEnd _ _ _ _ _ _ _ _ _ _ _ _ _ _)); (fail_if_success (with_reducible show LCg.CompSrc _ _ _ _ _ _ _ _ _ _ _ _ _ _)); first | (k_unfold; (try dsimp only)) | (with_reducible refine hideQ ?_; intro Q9 hQ9) | (with_reducible refine hideQ2 ?_; intro Q9 hQ9) | (with_reducible refine hQ9 _ _ ?_; try clear hQ9 Q9) | walk1 | (dsimp only; walk1) | (dsimp only; k_unfold; (try dsimp only))) | fail "no step")
    rename News _ _ _ _ => N5
    rename Fr _ _ _ _ => F5
    rename _ ∧ _ ∧ _ ∧ _ ∧ AllLt _ _ => lB
    refine LCg.CompEnd.intro F5 (seg4_sort N5) _ (fun _ h => h) ⟨off.1, ⟨Nat.ne_of_gt lB.1, Nat.ne_of_gt lB.2.1, Nat.ne_of_gt lB.2.2.1⟩, off.2⟩ trivial (.mk _ _ (fun p hp => .tail _ hp) (all_cons (Nat.ne_of_gt lB.2.2.2.1) (hR2b)) ?w)
    have e9 : (0 : Int) + (i : Int) = (i : Int) := Int.zero_add _
    rw [e9]
    exact ⟨_, _, _, _, .head _⟩)
  (case fn1 =>
    intro R' co hsub hR2b hcs
    repeat' (first | (k_unfold; (try dsimp only)) | (with_reducible refine hideQ ?_; intro Q9 hQ9) | (with_reducible refine hideQ2 ?_; intro Q9 hQ9) | (with_reducible refine hQ9 _ _ ?_; try clear hQ9 Q9) | ((fail_if_success (with_reducible show LCg.CompSrc _ _ _ _ _ _ _ _ _ _ _ _ _ _)); walk1) | ((fail_if_success (with_reducible show LCg.CompSrc _ _ _ _ _ _ _ _ _ _ _ _ _ _)); dsimp only; walk1) | (dsimp only; k_unfold; (try dsimp only)) | fail "no step")
    rename News _ _ _ _ => N5
    rename Fr _ _ _ _ => F5
    rename AptL _ _ => o9
    exact k _ _ _ _ co F5 (seg4_swap N5) (fun p hp => .tail _ (hsub p hp)) (all_cons (fun e => o9.get _ (.head _) e.symm) (hR2b)) (.head _) fun j hj => let ⟨z0, z1, z2, z3, q⟩ := hcs j hj; ⟨z0, z1, z2, z3, .tail _ q⟩)
end

end
section
section
theorem seg5 {w : World} {loose : List Str} {mean : ExcName → Option Value} {mg mb : Str → Option Value} {dp un : Nat} {gd : Option (List Code)} {outer : List Env} {A₀ : Around} {base g h₁ : Heap} {L nl wl col : Addr} {s₀ : Shared} {tk : Nat} {Q : Flow → Shared → Prop} {E : Value → Shared → Prop} {B : List Stmt} {sc : Scope} {m : Str → Option Value} {oN : Obj} {R : Led}
    {no co wo : Nat → Addr} {cs : Nat → List Int} {b n nt : Nat → Int} {sm : Nat → Bool} {c : Nat → Int → Int}
    (hB : B = fB (stAt 28)) (hS : sc = fS (stAt 28)) (Bl : Below A₀ base outer g) (F : Fr g L h₁ m) (X : (K9 w.params).In g) (T : Top topProg loose mean mg mb g) (hd : dp + 8 < recursionLimit) (hu : un + 12 * 8 + 9 < cLine)
    (N : News g L h₁ (((242 : Addr), tabObj #[]) :: R)) (dN : oN.data = .cell (some (.ref nl))) (mN : (L + 1 + 1 + 1, oN) ∈ R) (mnl : (nl, LCg.lst [.ref (no 0), .ref (no 1), .ref (no 2), .ref (no 3)]) ∈ R)
    (hws : ∀ i, i < 4 → WsAt R (no i) (cs i) (b i) (n i) (nt i) (sm i)) (hb : ∀ i, i < 4 → b i ≤ 10)
    (mC : m (Str.ofString "columns") = some (.ref col)) (mW : m (Str.ofString "walked") = some (.ref wl)) (mcol : (col, LCg.lst [.ref (co 0), .ref (co 1), .ref (co 2), .ref (co 3)]) ∈ R) (mwl : (wl, LCg.lst [.ref (wo 0), .ref (wo 1), .ref (wo 2), .ref (wo 3)]) ∈ R)
    (hco : ∀ i, i < 4 → ∃ z0 z1 z2 z3, (co i, tupObj #[.int (c i 1) z0, .int (c i 2) z1, .int (c i 3) z2, .int (i : Int) z3]) ∈ R) (hwo : ∀ i, i < 4 → ∃ z0 z1 z2 z3, (wo i, tupObj #[.int (c i 1) z0, .int (c i 2) z1, .int (c i 3) z2, .int (i : Int) z3]) ∈ R)
    (hl : ∀ i j, i < 4 → j < 4 → lessV (n i) (n j) (nt i) (nt j) (sm i) (sm j) (mx (lonV (cs i) (b i)) (lonV (cs j) (b j))) (indV (cs i) (b i) (nt i)) (indV (cs j) (b j) (nt j)) = (decide (c i 1 < c j 1) && (decide (c i 2 < c j 2) && decide (c i 3 < c j 3))))
    (k : ∀ h' tk', Fr g L h' m → News g L h' (((242 : Addr), tabObj #[]) :: R) → Q .next { s₀ with heap := h', toks := tk' }) :
    wpAny (model PP w) (ktrTop dp un gd (Str.ofString "law") sc L 252 (.ref 251) (cellsFrom (L + 1) sc.names []) outer) (execs ((B.drop 5).take 1) (envX (Str.ofString "law") sc L 252 (.ref 251) (cellsFrom (L + 1) sc.names []))) Q E { s₀ with heap := h₁, toks := tk } := by
  have heq : ∀ (s : Shared) (A : Around), A.units + 5 < cLine → News g L s.heap (((242 : Addr), tabObj #[]) :: R) → EqAll A.in1 s [.ref (co 0), .ref (co 1), .ref (co 2), .ref (co 3)] [.ref (wo 0), .ref (wo 1), .ref (wo 2), .ref (wo 3)] := fun s A hA N => by
    have one : ∀ i, i < 4 → SeqAt.EqAt A.in1 s (.ref (co i)) (.ref (wo i)) true := fun i hi => by
      obtain ⟨z0, z1, z2, z3, q⟩ := hco i hi
      obtain ⟨y0, y1, y2, y3, q'⟩ := hwo i hi
      exact eq_ref (rc_tup (N.isTup (.tail _ q)) (N.isTup (.tail _ q')) (by show A.units + 1 < _; omega) (.cons (eq_int rfl) (.cons (eq_int rfl) (.cons (eq_int rfl) (.cons (eq_int rfl) .nil)))))
    exact .cons (one 0 (by decide)) (.cons (one 1 (by decide)) (.cons (one 2 (by decide)) (.cons (one 3 (by decide)) .nil)))
  have hless : Con w 3 192 [.ref nl, .ref wl] [] R (PBool true) :=
    law_less_con (no := fun k : _root_.Fin 4 => no k.val) (wo := fun k => wo k.val) (cs := fun k => cs k.val) (b := fun k => b k.val) (n := fun k => n k.val) (nt := fun k => nt k.val) (sm := fun k => sm k.val) (c0 := fun k => c k.val 1) (c1 := fun k => c k.val 2) (c2 := fun k => c k.val 3) (n1 := 4) (n2 := 4)
      mnl mwl (fun k => hws k.val k.isLt) (fun k => hb k.val k.isLt) (fun k => by obtain ⟨z0, z1, z2, z3, q⟩ := hwo k.val k.isLt; exact ⟨z0, z1, z2, _, q⟩) (fun i j => hl i.val j.val i.isLt j.isLt)
  clear hws hb hl hco hwo
  have hu5 : un + 5 < cLine := by omega
  have hu0 : un < cLine := by omega
  (k_with "left 58" => skip)
  (k_with "left 57" => skip)
  (k_with "compareOp NotEq ref ref" => (fail_if_success k_extra "left 60"); ((k_here; k_dflt (refine' ne_list (xs := [.ref (co 0), .ref (co 1), .ref (co 2), .ref (co 3)]) (ys := [.ref (wo 0), .ref (wo 1), .ref (wo 2), .ref (wo 3)]) ?w₉a ?w₉b ?w₉c ?w₉d ?_); (case w₉a => exact News.isList (by k_asm) (by k_mem)); (case w₉b => exact News.isList (by k_asm) (by k_mem)); (case w₉c => k_dflt (exact hu0)); (case w₉d => k_dflt (exact heq _ _ hu5 (by k_asm))); k_whole)))
  (k_with "call ref" => (fail_if_success k_extra "left 60"); ((k_here; k_dflt (refine' con_use0 PBool.el hless ?w₉k1 ?w₉k2 ?w₉k3 ?w₉k4 ?w₉k5 ?w₉kK ?w₉kI ?w₉kd ?w₉ku ?_); (case w₉k1 => k_asm); (case w₉k2 => k_asm); (case w₉k3 => k_asm); (case w₉k4 => k_asm); (case w₉k5 => k_asm); (case w₉kK => first | exact rfl | assumption); (case w₉kI => walk_at "my suf"); (case w₉kd => (first | omega | ktr_room)); (case w₉ku => (first | omega | ktr_units)); k_whole; intro h₉ tk₉ F₉ N₉; (try dsimp only); (try k_sweep))))
  (conv at hB => rhs; whnf)
  (conv at hS => rhs; whnf)
  subst hB hS
  (try dsimp only [List.drop, List.take])
  (first | (refine letAE ?_; intro A9 E9) | skip)
  repeat' (first | (k_unfold; (try dsimp only)) | (with_reducible refine hideQ ?_; intro Q9 hQ9) | (with_reducible refine hideQ2 ?_; intro Q9 hQ9) | (with_reducible refine hQ9 _ _ ?_; try clear hQ9 Q9) | walk1 | (dsimp only; walk1) | (dsimp only; k_unfold; (try dsimp only)) | fail "no step")
  exact k _ _ (by k_asm) (by k_asm)
end

end
section
section
theorem seg6 {w : World} {loose : List Str} {mean : ExcName → Option Value} {mg mb : Str → Option Value} {dp un : Nat} {gd : Option (List Code)} {outer : List Env} {A₀ : Around} {base g h₁ : Heap} {L dl : Addr} {s₀ : Shared} {tk : Nat} {Q : Flow → Shared → Prop} {E : Value → Shared → Prop} {B : List Stmt} {sc : Scope} {m : Str → Option Value} {oD : Obj} {R : Led}
    {vs : List Value} {ds : List Int} {nv : Nat}
    (hB : B = fB (stAt 28)) (hS : sc = fS (stAt 28)) (Bl : Below A₀ base outer g) (F : Fr g L h₁ m) (X : (K9 w.params).In g) (T : Top topProg loose mean mg mb g) (hd : dp + 8 < recursionLimit) (hu : un + 12 * 8 + 9 < cLine)
    (N : News g L h₁ (((242 : Addr), tabObj #[]) :: R)) (dD : oD.data = .cell (some (.ref dl))) (mD : (L + 1, oD) ∈ R) (mdl : (dl, listOf (List.toArray vs) nv) ∈ R) (hi : IntsAre vs ds) (hl : ds.length = 12) (hR2 : ∀ q ∈ R, @Ne Nat q.1 242)
    (k : ∀ h' tk' (R' : Led) stl (so : Nat → Addr), Fr g L h' (fun y => if y = Str.ofString "start" then some (.ref stl) else m y) → News g L h' (((242 : Addr), tabObj #[]) :: R') → (∀ p ∈ R, p ∈ R') → (∀ q ∈ R', @Ne Nat q.1 242) → (stl, LCg.lst [.ref (so 0), .ref (so 1), .ref (so 2), .ref (so 3)]) ∈ R' →
      (∀ i, i < 4 → ThAt R' (so i) ⟨(i : Int), ds.getD i 0, ds.getD (4 + i) 0⟩) → Q .next { s₀ with heap := h', toks := tk' }) :
    wpAny (model PP w) (ktrTop dp un gd (Str.ofString "law") sc L 252 (.ref 251) (cellsFrom (L + 1) sc.names []) outer) (execs ((B.drop 6).take 1) (envX (Str.ofString "law") sc L 252 (.ref 251) (cellsFrom (L + 1) sc.names []))) Q E { s₀ with heap := h₁, toks := tk } := by
  (k_with "left 60" => skip)
  (k_with "left 59" => skip)
  (k_with "CompSrc" => (fail_if_success k_extra "left 62"); (fail "stop"))
  (k_with "exec Assign cons ListComp" => (fail_if_success k_extra "left 62"); ((k_here; k_dflt (refine LCg.Assign_ListComp_U (F₀ := by k_asm) (by rfl) (by with_unfolding_all rfl) (by with_unfolding_all rfl) (by decide) (by rfl) (by decide) (by rfl) (by rfl) (by rfl) ?_))))
  (k_with "my item" => (fail_if_success k_extra "left 62"); ((k_here; (with_reducible show wpAny _ _ (subscriptTail _ _ (Value.ref _) (Value.int _ _)) _ _ _); k_dflt (first | (refine' item_sym ?w₉N ?w₉m ?w₉a ?w₉b hd1 ?_; (case w₉N => k_asm); (case w₉m => k_mem); (case w₉a => omega); (case w₉b => omega); k_whole) | (refine' item_sym ?w₉N ?w₉m ?w₉a ?w₉b hd2 ?_; (case w₉N => k_asm); (case w₉m => k_mem); (case w₉a => omega); (case w₉b => omega); k_whole)))))
  (k_with "subscriptTail Name Name ref int" => (fail_if_success k_extra "left 62"); (walk_at "my item"))
  (k_with "subscriptTail Name BinOp ref int" => (fail_if_success k_extra "left 62"); (walk_at "my item"))
  (conv at hB => rhs; whnf)
  (conv at hS => rhs; whnf)
  subst hB hS
  (try dsimp only [List.drop, List.take])
  (first | (refine letAE ?_; intro A9 E9) | skip)
  repeat' (first | (k_unfold; (try dsimp only)) | (with_reducible refine hideQ ?_; intro Q9 hQ9) | (with_reducible refine hideQ2 ?_; intro Q9 hQ9) | (with_reducible refine hQ9 _ _ ?_; try clear hQ9 Q9) | ((fail_if_success (with_reducible show LCg.CompSrc _ _ _ _ _ _ _ _ _ _ _ _ _ _)); walk1) | ((fail_if_success (with_reducible show LCg.CompSrc _ _ _ _ _ _ _ _ _ _ _ _ _ _)); dsimp only; walk1) | (dsimp only; k_unfold; (try dsimp only)) | fail "no step")
  refine LCg.CompSrc.range (n := 4) (by rfl) (by k_asm) (by k_asm) (by assumption) (by decide) (by decide) (by rw [sizeLine_eq]; decide) (fun g' => ?_)
  refine comp_refs (fun R' j a => ThAt R' a ⟨(j : Int), ds.getD j 0, ds.getD (4 + j) 0⟩) (fun R R' j a k h => h.mono k) hR2 ?st1 ?fn1
  (case st1 =>
    intro i R' ys hi4 hsub hR2b t9 I2 oI oC C D m2 h2 tk3 E2 hC hxx F3 N3 off
    have hi' : i < 4 := hi4
    have mD' := hsub _ mD
    have mdl' := hsub _ mdl
    obtain ⟨y1, hd1⟩ := ints_get hi (show (0 + (i : Int)).toNat < ds.length by omega)
    obtain ⟨y2, hd2⟩ := ints_get hi (show (4 + (0 + (i : Int))).toNat < ds.length by omega)
    (try dsimp only)
    repeat' (first | ((fail_if_success (with_reducible show LCg.CompEnd _ _ _ _ _ _ _ _ _ _ _ _ _ _)); (fail_if_success (with_reducible show LCg.CompSrc _ _ _ _ _ _ _ _ _ _ _ _ _ _)); first | (k_unfold; (try dsimp only)) | (with_reducible refine hideQ ?_; intro Q9 hQ9) | (with_reducible refine hideQ2 ?_; intro Q9 hQ9) | (with_reducible refine hQ9 _ _ ?_; try clear hQ9 Q9) | walk1 | (dsimp only; walk1) | (dsimp only; k_unfold; (try dsimp only))) | fail "no step")
    rename News _ _ _ _ => N5
    rename Fr _ _ _ _ => F5
    rename _ ∧ _ ∧ _ ∧ _ ∧ AllLt _ _ => lB
    refine LCg.CompEnd.intro F5 (seg4_sort N5) _ (fun _ h => h) ⟨off.1, ⟨Nat.ne_of_gt lB.1, Nat.ne_of_gt lB.2.1, Nat.ne_of_gt lB.2.2.1⟩, off.2⟩ trivial (.mk _ _ (fun p hp => .tail _ hp) (all_cons (Nat.ne_of_gt lB.2.2.2.1) (hR2b)) ?w)
    have e9 : (0 : Int) + (i : Int) = (i : Int) := Int.zero_add _
    have e8 : (4 + (0 + (i : Int))).toNat = 4 + i := by omega
    have e7 : (0 + (i : Int)).toNat = i := by omega
    rw [e8, e7, e9]
    exact ⟨_, _, _, .head _⟩)
  (case fn1 =>
    intro R' co hsub hR2b hcs
    repeat' (first | (k_unfold; (try dsimp only)) | (with_reducible refine hideQ ?_; intro Q9 hQ9) | (with_reducible refine hideQ2 ?_; intro Q9 hQ9) | (with_reducible refine hQ9 _ _ ?_; try clear hQ9 Q9) | ((fail_if_success (with_reducible show LCg.CompSrc _ _ _ _ _ _ _ _ _ _ _ _ _ _)); walk1) | ((fail_if_success (with_reducible show LCg.CompSrc _ _ _ _ _ _ _ _ _ _ _ _ _ _)); dsimp only; walk1) | (dsimp only; k_unfold; (try dsimp only)) | fail "no step")
    rename News _ _ _ _ => N5
    rename Fr _ _ _ _ => F5
    rename AptL _ _ => o9
    exact k _ _ _ _ co F5 (seg4_swap N5) (fun p hp => .tail _ (hsub p hp)) (all_cons (fun e => o9.get _ (.head _) e.symm) (hR2b)) (.head _) fun j hj => (hcs j hj).mono fun p hp => .tail _ hp)
end

end
section
theorem stored_new {kvs : List (Int × Value)} {k : Int} {v : Value} (h : ∀ x ∈ kvs, x.1 ≠ k) : stored kvs k v = kvs ++ [(k, v)] := by
  unfold stored
  have : kvs.any (fun kv => decide (kv.1 = k)) = false := by
    rw [List.any_eq_false]
    intro x hx
    simp [h x hx]
  rw [if_neg (by rw [this]; decide)]
theorem kvs_snoc {bo : Nat → Addr} {i : Nat} {y : Addr} : stored ((List.range i).map fun (j : Nat) => ((j : Int), Value.ref (bo j))) (i : Int) (.ref y) = (List.range (i + 1)).map fun (j : Nat) => ((j : Int), Value.ref (if j = i then y else bo j)) := by
  rw [stored_new fun x hx => ?_, List.range_succ, List.map_append]
  · congr 1
    · refine List.map_congr_left fun j hj => ?_
      have := List.mem_range.mp hj
      simp only [if_neg (Nat.ne_of_lt this)]
    · simp
  · obtain ⟨j, hj, rfl⟩ := List.mem_map.mp hx
    have := List.mem_range.mp hj
    show (j : Int) ≠ (i : Int)
    omega
theorem seg7_sort {h₀ h : Heap} {L : Addr} {a b I C D t : Addr × Obj} {R : Led} (N : News h₀ L h (a :: b :: I :: C :: D :: t :: R)) : News h₀ L h (I :: C :: D :: t :: a :: b :: R) := fun p hp => N p (by
  simp only [List.mem_cons] at hp ⊢
  rcases hp with h | h | h | h | h | h | h <;> simp [h])

section
theorem seg7 {w : World} {loose : List Str} {mean : ExcName → Option Value} {mg mb : Str → Option Value} {dp un : Nat} {gd : Option (List Code)} {outer : List Env} {A₀ : Around} {base g h₁ : Heap} {L : Addr} {s₀ : Shared} {tk : Nat} {Q : Flow → Shared → Prop} {E : Value → Shared → Prop} {B : List Stmt} {sc : Scope} {m : Str → Option Value} {R : Led}
    (hB : B = fB (stAt 28)) (hS : sc = fS (stAt 28)) (Bl : Below A₀ base outer g) (F : Fr g L h₁ m) (X : (K9 w.params).In g) (T : Top topProg loose mean mg mb g) (hd : dp + 8 < recursionLimit) (hu : un + 12 * 8 + 9 < cLine)
    (N : News g L h₁ (((242 : Addr), tabObj #[]) :: R)) (hR2 : ∀ q ∈ R, @Ne Nat q.1 242)
    (k : ∀ h' tk' (R' : Led) cd ob (bo : Nat → Addr), Fr g L h' (fun y => if y = Str.ofString "clean" then some (.ref cd) else m y) → News g L h' (((242 : Addr), tabObj #[]) :: R') → (∀ p ∈ R, p ∈ R') → (∀ q ∈ R', @Ne Nat q.1 242) → (cd, ob) ∈ R' → ob.IsDictOf (intKind PP w) [(0, .ref (bo 0)), (1, .ref (bo 1)), (2, .ref (bo 2)), (3, .ref (bo 3))] → (cd == sysModules) = false →
      (∀ i, i < 4 → BkAt w R' (bo i) ⟨0, 0, 0, 0, fun _ => 0⟩) → Q .next { s₀ with heap := h', toks := tk' }) :
    wpAny (model PP w) (ktrTop dp un gd (Str.ofString "law") sc L 252 (.ref 251) (cellsFrom (L + 1) sc.names []) outer) (execs ((B.drop 7).take 1) (envX (Str.ofString "law") sc L 252 (.ref 251) (cellsFrom (L + 1) sc.names []))) Q E { s₀ with heap := h₁, toks := tk } := by
  (k_with "left 62" => skip)
  (k_with "left 61" => skip)
  (conv at hB => rhs; whnf)
  (conv at hS => rhs; whnf)
  subst hB hS
  (try dsimp only [List.drop, List.take])
  (first | (refine letAE ?_; intro A9 E9) | skip)
  refine wpAny_execs_cons ?_
  refine dc_Assign 4 (by k_asm) (by with_unfolding_all rfl) rfl (by with_unfolding_all rfl) (by decide) rfl (by decide) rfl (by decide) rfl rfl ?_
  (try dsimp only)
  repeat' (first | ((fail_if_success (with_reducible show wpAny _ _ (PySem.eval (PySem.Expr.DictComp _ _ _ _ _) _) _ _ _)); (fail_if_success (with_reducible show Exists _)); first | (k_unfold; (try dsimp only)) | (with_reducible refine hideQ ?_; intro Q9 hQ9) | (with_reducible refine hideQ2 ?_; intro Q9 hQ9) | (with_reducible refine hQ9 _ _ ?_; try clear hQ9 Q9) | walk1 | (dsimp only; walk1) | (dsimp only; k_unfold; (try dsimp only))) | fail "no step")
  refine ⟨_, _, _, _, _, fun i kv nw => ∃ R' bo, nw = ((242 : Addr), tabObj #[]) :: R' ∧ (∀ p ∈ R, p ∈ R') ∧ (∀ q ∈ R', @Ne Nat q.1 242) ∧ kv = (List.range i).map (fun (j : Nat) => ((j : Int), Value.ref (bo j))) ∧ ∀ j, j < i → BkAt w R' (bo j) ⟨0, 0, 0, 0, fun _ => 0⟩, by assumption, by k_asm, by k_asm, Top.nolimit (by k_asm), ⟨R, fun _ => 0, rfl, fun _ h => h, hR2, rfl, fun j hj => absurd hj (Nat.not_lt_zero _)⟩, ?turn, ?done⟩
  (case turn =>
    rintro i kv nw hj ⟨R', bo, rfl, hsub, hR2b, rfl, hbk⟩ t9 I9 oI9 oC9 C9 D9 oD9 m9 h9 tk9 E9 hD9 hC9 hx9 F9 N9 off9
    (try dsimp only)
    walk1
    refine ⟨⟨_, rfl⟩, ?_⟩
    repeat' (first | ((fail_if_success (with_reducible show LCg.CompEnd _ _ _ _ _ _ _ _ _ _ _ _ _ _)); (fail_if_success (with_reducible show LCg.CompSrc _ _ _ _ _ _ _ _ _ _ _ _ _ _)); first | (k_unfold; (try dsimp only)) | (with_reducible refine hideQ ?_; intro Q9 hQ9) | (with_reducible refine hideQ2 ?_; intro Q9 hQ9) | (with_reducible refine hQ9 _ _ ?_; try clear hQ9 Q9) | walk1 | (dsimp only; walk1) | (dsimp only; k_unfold; (try dsimp only))) | fail "no step")
    rename News _ _ _ _ => N5
    rename Fr _ _ _ _ => F5
    rename _ ∧ _ ∧ _ ∧ _ ∧ _ ∧ AllLt _ _ => lB
    rename _ ∧ _ ∧ _ ∧ _ ∧ AllLt _ _ => lA
    refine ⟨_, _, _, rfl, F5, seg7_sort N5, ⟨off9.1, ⟨Nat.ne_of_gt lB.2.1, Nat.ne_of_gt lB.2.2.1, Nat.ne_of_gt lB.2.2.2.1⟩, ⟨Nat.ne_of_gt lA.1, Nat.ne_of_gt lA.2.1, Nat.ne_of_gt lA.2.2.1⟩, off9.2⟩, trivial, _, fun j => if j = i then _ else bo j, rfl, fun p hp => .tail _ (.tail _ (hsub p hp)), all_cons (Nat.ne_of_gt lB.2.2.2.2.1) (all_cons (Nat.ne_of_gt lA.2.2.2.1) (hR2b)), kvs_snoc, fun j hj => ?_⟩
    rcases Nat.lt_or_eq_of_le (Nat.le_of_lt_succ hj) with hlt | rfl
    · simp only [if_neg (Nat.ne_of_lt hlt)]
      exact (hbk j hlt).mono fun p hp => .tail _ (.tail _ hp)
    · simp only [if_pos]
      exact ⟨_, _, _, _, _, _, _, _, _, _, .head _, .tail _ (.head _), by assumption, by assumption⟩)
  (case done =>
    rintro D9 oD9 h9 tk9 kv nw ⟨R', bo, rfl, hsub, hR2b, rfl, hbk⟩ hD9 lo9 F9 N9 off9
    (try dsimp only)
    repeat' (first | (k_unfold; (try dsimp only)) | (with_reducible refine hideQ ?_; intro Q9 hQ9) | (with_reducible refine hideQ2 ?_; intro Q9 hQ9) | (with_reducible refine hQ9 _ _ ?_; try clear hQ9 Q9) | walk1 | (dsimp only; walk1) | (dsimp only; k_unfold; (try dsimp only)) | fail "no step")
    exact k _ _ _ D9 oD9 bo F9 (seg4_swap N9) (fun p hp => .tail _ (hsub p hp)) (all_cons (fun e => off9.1 e.symm) (hR2b)) (.head _) hD9 lo9 fun j hj => (hbk j hj).mono fun p hp => .tail _ hp)
end

end
section
theorem seg8_sort {h₀ h : Heap} {L : Addr} {a b c d t : Addr × Obj} {R : Led} (N : News h₀ L h (a :: b :: c :: d :: t :: R)) : News h₀ L h (t :: a :: b :: c :: d :: R) := fun p hp => N p (by
  simp only [List.mem_cons] at hp ⊢
  rcases hp with h | h | h | h | h | h <;> simp [h])

section
theorem seg8 {w : World} {loose : List Str} {mean : ExcName → Option Value} {mg mb : Str → Option Value} {dp un : Nat} {gd : Option (List Code)} {outer : List Env} {A₀ : Around} {base g h₁ : Heap} {L stl cd : Addr} {s₀ : Shared} {tk : Nat} {Q : Flow → Shared → Prop} {E : Value → Shared → Prop} {B : List Stmt} {sc : Scope} {m : Str → Option Value} {R : Led} {T0 T1 : List Int}
    (hB : B = fB (stAt 28)) (hS : sc = fS (stAt 28)) (Bl : Below A₀ base outer g) (F : Fr g L h₁ m) (X : (K9 w.params).In g) (T : Top topProg loose mean mg mb g) (hd : dp + 8 < recursionLimit) (hu : un + 12 * 8 + 9 < cLine)
    (N : News g L h₁ (((242 : Addr), tabObj #[]) :: R)) (hR2 : ∀ q ∈ R, @Ne Nat q.1 242) (mS : m (Str.ofString "start") = some (.ref stl)) (mC : m (Str.ofString "clean") = some (.ref cd))
    (ht0 : ∀ {ts : Tok}, Con w 2 211 [.ref stl, .int 0 ts] [] R (PInts T0)) (ht1 : ∀ {ts : Tok}, Con w 2 211 [.ref stl, .int 1 ts] [] R (PInts T1))
    (k : ∀ h' tk' (R' : Led) st tl a0 a1 v0 v1 n0 n1 nt, Fr g L h' (fun y => if y = Str.ofString "state" then some (.ref st) else if y = Str.ofString "tolls" then some (.ref tl) else m y) → News g L h' (((242 : Addr), tabObj #[]) :: R') → (∀ p ∈ R, p ∈ R') → (∀ q ∈ R', @Ne Nat q.1 242) → (st, tupObj #[.ref stl, .ref cd]) ∈ R' → (tl, listOf #[.ref a0, .ref a1] nt) ∈ R' →
      (a0, listOf (List.toArray v0) n0) ∈ R' → (a1, listOf (List.toArray v1) n1) ∈ R' → IntsAre v0 T0 → IntsAre v1 T1 → Q .next { s₀ with heap := h', toks := tk' }) :
    wpAny (model PP w) (ktrTop dp un gd (Str.ofString "law") sc L 252 (.ref 251) (cellsFrom (L + 1) sc.names []) outer) (execs ((B.drop 8).take 2) (envX (Str.ofString "law") sc L 252 (.ref 251) (cellsFrom (L + 1) sc.names []))) Q E { s₀ with heap := h₁, toks := tk } := by
  (k_with "left 64" => skip)
  (k_with "left 63" => skip)
  (k_with "k_lt" => (fail_if_success k_extra "left 65"); (skip))
  (k_with "my apt3" => (fail_if_success k_extra "left 66"); (first | assumption | (refine' all_cons ?_ ?_; (· k_ne); walk_at "my apt3")))
  (k_with "call ref" => (fail_if_success k_extra "left 66"); ((k_here; k_dflt (first | refine' con_use1 PInts.el ht0 ?w₉k1 ?w₉k2 ?w₉k3 ?w₉k4 ?w₉k5 ?w₉kK ?w₉kI ?w₉kd ?w₉ku ?_ | refine' con_use1 PInts.el ht1 ?w₉k1 ?w₉k2 ?w₉k3 ?w₉k4 ?w₉k5 ?w₉kK ?w₉kI ?w₉kd ?w₉ku ?_); (case w₉k1 => k_asm); (case w₉k2 => k_asm); (case w₉k3 => k_asm); (case w₉k4 => k_asm); (case w₉k5 => k_asm); (case w₉kK => first | exact rfl | assumption); (case w₉kI => walk_at "my suf"); (case w₉kd => (first | omega | ktr_room)); (case w₉ku => (first | omega | ktr_units)); k_whole; intro l9₉ vs9₉ n9₉ hi9₉ h₉ tk₉ F₉ N₉ Z₉; (try walk_at "my aptl"); (try simp only [List.cons_append, List.nil_append] at N₉); (try dsimp only); (try k_sweep))))
  (conv at hB => rhs; whnf)
  (conv at hS => rhs; whnf)
  subst hB hS
  (try dsimp only [List.drop, List.take])
  (first | (refine letAE ?_; intro A9 E9) | skip)
  repeat' (first | (k_unfold; (try dsimp only)) | (with_reducible refine hideQ ?_; intro Q9 hQ9) | (with_reducible refine hideQ2 ?_; intro Q9 hQ9) | (with_reducible refine hQ9 _ _ ?_; try clear hQ9 Q9) | walk1 | (dsimp only; walk1) | (dsimp only; k_unfold; (try dsimp only)) | fail "no step")
  rename News _ _ _ _ => N3
  rename Fr _ _ _ _ => F3
  exact k _ _ _ _ _ _ _ _ _ _ _ _ F3 (seg8_sort N3) (fun p hp => .tail _ (.tail _ (.tail _ (.tail _ hp)))) (by (first | walk_at "my apt3" | fail "my apt3")) (.head _) (.tail _ (.head _)) (.tail _ (.tail _ (.tail _ (.head _)))) (.tail _ (.tail _ (.head _))) (by assumption) (by assumption)
end

end
section
noncomputable def OrdTab (T : Led) : Prop := T = [((242 : Addr), tabObj #[])] ∨ ∃ c oc fv tq, T = [((242 : Addr), tabObj #[rawInt 193, rawInt 32, .ref c]), (c, oc)] ∧ oc.data = .fields fv ∧ fv[1]? = some (.str (Str.ofString "_law_order.<locals>.<lambda>") tq)
inductive POrd (T : List Int) : Value → Led → Prop
  | mk (l : Addr) (vs : List Value) (m : Nat) (T' : Led) (hT : OrdTab T') (hi : IntsAre vs T) : POrd T (.ref l) ((l, listOf (List.toArray vs) m) :: T')
theorem POrd.el {T : List Int} (K : Value → Led → Prop) (k : ∀ l vs m T', OrdTab T' → IntsAre vs T → K (.ref l) ((l, listOf (List.toArray vs) m) :: T')) (r : Value) (A : Led) (h : POrd T r A) : K r A := by cases h; exact k _ _ _ _ (by assumption) (by assumption)
theorem order_any {w : World} {T R : Led} {wl : Addr} {wo : Nat → Addr} {n : Nat} {t : Tok} {i : Int} {c : Nat → Int → Int} {col : Int → Int} (hT : OrdTab T) (hRT : ∀ p ∈ T, ∀ q ∈ R, q.1 ≠ p.1)
    (hw : (wl, listOf #[.ref (wo 0), .ref (wo 1), .ref (wo 2), .ref (wo 3)] n) ∈ R) (hwo : ∀ i, i < 4 → ∃ z0 z1 z2 z3, (wo i, tupObj #[.int (c i 1) z0, .int (c i 2) z1, .int (c i 3) z2, .int (i : Int) z3]) ∈ R) (hi : i = 0 ∨ i = 1 ∨ i = 2)
    (hc : ∀ j : Nat, j < 4 → col (j : Int) = c j (i + 1)) :
    Con w 2 247 [.ref wl, .int i t] T R (POrd (srt (rks col))) := by
  obtain ⟨z00, z01, z02, z03, q0⟩ := hwo 0 (by decide)
  obtain ⟨z10, z11, z12, z13, q1⟩ := hwo 1 (by decide)
  obtain ⟨z20, z21, z22, z23, q2⟩ := hwo 2 (by decide)
  obtain ⟨z30, z31, z32, z33, q3⟩ := hwo 3 (by decide)
  have h0 := hc 0 (by decide)
  have h1 := hc 1 (by decide)
  have h2 := hc 2 (by decide)
  have h3 := hc 3 (by decide)
  have g : ∀ a b d e : Int, [a, b, d, e].getD i.toNat 0 = if i = 0 then a else if i = 1 then b else d := fun a b d e => by rcases hi with rfl | rfl | rfl <;> rfl
  have e : ∀ k : Nat, (if i = 0 then c k 1 else if i = 1 then c k 2 else c k 3) = c k (i + 1) := fun k => by rcases hi with rfl | rfl | rfl <;> rfl
  rcases hT with rfl | ⟨c', oc, fv, tq, rfl, hf, hv⟩
  · refine con_post (order_con (col := col) hw q0 q1 q2 q3 (hRT _ (.head _)) hi ((g ..).trans ((e 0).trans h0.symm)) ((g ..).trans ((e 1).trans h1.symm)) ((g ..).trans ((e 2).trans h2.symm)) ((g ..).trans ((e 3).trans h3.symm))) fun r A h => ?_
    obtain ⟨l, vs, m, c', oc, fv, tq, hi, hf, hv⟩ := h
    exact .mk l vs m _ (.inr ⟨c', oc, fv, tq, rfl, hf, hv⟩) hi
  · refine con_post (con_shift (order2_con (col := col) (R := _ ++ R) (List.mem_append_right _ hw) (List.mem_append_right _ q0) (List.mem_append_right _ q1) (List.mem_append_right _ q2) (List.mem_append_right _ q3) (.head _) (.tail _ (.head _)) hf hv hi ((g ..).trans ((e 0).trans h0.symm)) ((g ..).trans ((e 1).trans h1.symm)) ((g ..).trans ((e 2).trans h2.symm)) ((g ..).trans ((e 3).trans h3.symm)))) fun r A h => ?_
    obtain ⟨A', rfl, h⟩ := h
    obtain ⟨l, vs, m, hi⟩ := h
    exact .mk l vs m _ (.inr ⟨c', oc, fv, tq, rfl, hf, hv⟩) hi
noncomputable def TurnEndG (h₀ : Heap) (L : Addr) (it t : Addr × Obj) (s₁ : Shared) (J : (Str → Option Value) → Led → Prop) (s₂ : Shared) : Prop :=
  ∃ h' tk m' all news', s₂ = { s₁ with heap := h', toks := tk } ∧ Fr h₀ L h' m' ∧ News h₀ L h' all ∧ it ∈ all ∧ (∀ p ∈ news', p ∈ all) ∧ (∀ p ∈ news', @Ne Nat p.1 it.1) ∧ t ∈ news' ∧ J m' news'
noncomputable def TurnPostG (h₀ : Heap) (L : Addr) (it t : Addr × Obj) (s₁ : Shared) (J : (Str → Option Value) → Led → Prop) (Q : Flow → Shared → Prop) (f : Flow) (s₂ : Shared) : Prop :=
  match f with
  | .ret v => Q (.ret v) s₂
  | .brk => Q .next s₂
  | _ => TurnEndG h₀ L it t s₁ J s₂
section
variable {w : World} {A : Around} {E : Value → Shared → Prop} {h₀ : Heap} {env : Env} {target : PySem.Expr} {body : List Stmt} {Q : Flow → Shared → Prop} {s : Shared} {R : Led} {m0 : Str → Option Value} {α β : Type}
theorem tupG_loop {t : Addr} {xs : List α} (it : α → Value) (nxt : β → α → β) (J : β → (Str → Option Value) → Led → Prop) (b : β) (hh : A.handled = none) (F : Fr h₀ env.locals s.heap m0) (N : News h₀ env.locals s.heap R) (hm : (t, tupObj (xs.map it).toArray) ∈ R) (hJ : J b m0 R)
    (step : ∀ I (x : α) (b : β) m news, J b m news → (∀ p ∈ news, @Ne Nat p.1 I) → (t, tupObj (xs.map it).toArray) ∈ news → ∀ (J' : (Str → Option Value) → Led → Prop) (Q' : Flow → Shared → Prop), (∀ m' n', J (nxt b x) m' n' → J' m' n') → (∀ v s, Q (.ret v) s → Q' (.ret v) s) → ∀ o' h tk, Fr h₀ env.locals h m → News h₀ env.locals h ((I, o') :: news) →
      wpAny (model PP w) A (assign target env (it x)) (fun _ s₂ => wpAny (model PP w) A (execs body env) (TurnPostG h₀ env.locals (I, o') (t, tupObj (xs.map it).toArray) { s with heap := h, toks := tk } J' Q') E s₂) E { s with heap := h, toks := tk })
    (fin : ∀ m news, J (xs.foldl nxt b) m news → ∀ h tk, Fr h₀ env.locals h m → News h₀ env.locals h news → Q .next { s with heap := h, toks := tk }) :
    wpAny (model PP w) A (pyIter (.ref t)) (fun it s₂ => TurnsAt PP w A h₀ env target body Q E it s₂) E s := by
  refine iter_tupTurns (vs := xs.map it) hh F N hm rfl rfl fun I hI => ?_
  rw [List.map_map]
  refine items_ind (prog := PP) (w := w) (A := A) (E := E) (h₀ := h₀) (env := env) (target := target) (body := body) (Q := Q) (s := s) (fun x : α => Itm.val (it x)) nxt (fun b m news => J b m news ∧ (∀ p ∈ news, @Ne Nat p.1 I) ∧ (t, tupObj (xs.map it).toArray) ∈ news) (fun x b m news hb v h tk hv F => ?_) xs b m0 R ⟨hJ, fun p hp => Nat.ne_of_lt (hI p hp), hm⟩ (fun m news hb h tk F N => fin m news hb.1 h tk F N)
  obtain ⟨hj, hn, ht⟩ := hb
  have hv' : v = it x := hv
  subst hv'
  refine AllObj.cons (fun o' _ => AllObj.nil (fun N => ?_))
  refine wpAny_mono (step I x b m news hj hn ht (J (nxt b x)) Q (fun _ _ z => z) (fun _ _ z => z) o' h tk F (by simpa using N)) (fun _ s₂ h₂ => wpAny_mono h₂ (fun f s₃ h₃ => ?_) fun _ _ e => e) fun _ _ e => e
  have up : TurnEndG h₀ env.locals (I, o') (t, tupObj (xs.map it).toArray) { s with heap := h, toks := tk } (J (nxt b x)) s₃ → UnrEndW h₀ env.locals { s with heap := h, toks := tk } ([(I, o')] ++ []) (fun m' n' => SubL [(t, tupObj (xs.map it).toArray)] n' ∧ J (nxt b x) m' n' ∧ (∀ p ∈ n', @Ne Nat p.1 I) ∧ (t, tupObj (xs.map it).toArray) ∈ n') s₃ := by
    rintro ⟨h', tk', m', all, news', e, F', N', hi, hR, ha, ht', hj'⟩
    refine ⟨h', tk', m', news', e, F', fun p hp => ?_, fun p hp q hq => ?_, ⟨ht', trivial⟩, hj', ha, ht'⟩
    · simp only [List.append_nil, List.cons_append, List.nil_append, List.mem_cons] at hp
      rcases hp with rfl | hp
      · exact N' _ hi
      · exact N' _ (hR _ hp)
    · have : q = (I, o') := by simpa using hq
      subst this
      exact ha p hp
  cases f with
  | ret v => exact h₃
  | brk => exact h₃
  | next => exact up h₃
  | cont => exact up h₃
end

end
section
theorem SameSt.of_eq {σ τ : St} (h : σ = τ) : SameSt σ τ := by subst h; exact ⟨rfl, fun _ _ _ => ⟨rfl, rfl, rfl, rfl, fun _ _ _ => rfl⟩⟩
theorem ColAt.mono {R R' : Led} {cs : List Value} {C : Int → Int → Int} (h : ColAt R cs C) (k : ∀ p ∈ R, p ∈ R') : ColAt R' cs C := fun n a b => let ⟨e, As, h1, h2, h3⟩ := h n a b; ⟨e, As, h1, k _ h2, h3⟩
theorem laid_up {w : World} {R : Led} {st keys cols turns : Addr} {σ : St} {cs : List Value} {nc : Nat} {co : Int → Int → Int} {t0 t1 t2 t3 t4 t5 : Tok}
    (hst : StAt w R R st σ) (h9 : (cols, listOf cs.toArray nc) ∈ R) (hcs : ∀ n : Int, 0 ≤ n → n < 4 → ∃ e, cs[n.toNat]? = some (.ref e)) (hcmp : CmpAt w R keys cs co)
    (h10 : (turns, tupObj #[.int 0 t0, .int 1 t1, .int 2 t2, .int 0 t3, .int 1 t4, .int 0 t5]) ∈ R) :
    Con w 4 206 [.ref st, .ref keys, .ref cols, .ref turns] [] R (PState w R (ups.foldl (turn co) σ)) :=
  laid_con (ks := [((0 : _root_.Fin 3), t0), (1, t1), (2, t2), (0, t3), (1, t4), (0, t5)]) hst h9 hcs hcmp h10
theorem laid_down {w : World} {R : Led} {st keys cols turns : Addr} {σ : St} {cs : List Value} {nc : Nat} {co : Int → Int → Int} {t0 t1 t2 t3 t4 t5 : Tok}
    (hst : StAt w R R st σ) (h9 : (cols, listOf cs.toArray nc) ∈ R) (hcs : ∀ n : Int, 0 ≤ n → n < 4 → ∃ e, cs[n.toNat]? = some (.ref e)) (hcmp : CmpAt w R keys cs co)
    (h10 : (turns, tupObj #[.int 2 t0, .int 1 t1, .int 0 t2, .int 2 t3, .int 1 t4, .int 2 t5]) ∈ R) :
    Con w 4 206 [.ref st, .ref keys, .ref cols, .ref turns] [] R (PState w R (downs.foldl (turn co) σ)) :=
  laid_con (ks := [((2 : _root_.Fin 3), t0), (1, t1), (0, t2), (2, t3), (1, t4), (2, t5)]) hst h9 hcs hcmp h10
theorem fits4 {w : World} {R : Led} {st sl tl l0' l1' : Addr} {σ : St} {so : Nat → Addr} {th : Nat → Th} {nt n0 n1 : Nat} {v0 v1 : List Value} {T0 T1 : List Int}
    (hst : StAt w R R st σ) (hS : (sl, LCg.lst [.ref (so 0), .ref (so 1), .ref (so 2), .ref (so 3)]) ∈ R) (hth : ∀ i, i < 4 → ThAt R (so i) (th i))
    (ht : (tl, listOf #[.ref l0', .ref l1'] nt) ∈ R) (hU0 : (l0', listOf v0.toArray n0) ∈ R) (hU1 : (l1', listOf v1.toArray n1) ∈ R) (hT0 : IntsAre v0 T0) (hT1 : IntsAre v1 T1) (q0 : T0.length = 5) (q1 : T1.length = 5)
    (hf : Fits [th 0, th 1, th 2, th 3] T0 T1 σ) : Con w 3 233 [.ref st, .ref sl, .ref tl] [] R (PBool true) :=
  fits_con (rs := [⟨(so 0, th 0), hth 0 (by decide)⟩, ⟨(so 1, th 1), hth 1 (by decide)⟩, ⟨(so 2, th 2), hth 2 (by decide)⟩, ⟨(so 3, th 3), hth 3 (by decide)⟩]) (n := 4) hst hS rfl ht hU0 hU1 hT0 hT1 q0 q1 hf
theorem laid_pack {w : World} {AU T' R' : Led} {I sU : Addr} {oI : Obj} {a b c d : Addr × Obj} {σ : St} (hSU : StAt w AU (AU ++ (a :: b :: c :: d :: R')) sU σ) (ZU : ∀ p ∈ AU, AptL p.1 (a :: b :: c :: d :: (I, oI) :: (T' ++ R')))
    (h4 : I < d.1 ∧ AllLt d.1 (T' ++ R')) (h3 : d.1 < c.1 ∧ I < c.1 ∧ AllLt c.1 (T' ++ R')) (h2 : c.1 < b.1 ∧ d.1 < b.1 ∧ I < b.1 ∧ AllLt b.1 (T' ++ R')) (h1 : b.1 < a.1 ∧ c.1 < a.1 ∧ d.1 < a.1 ∧ I < a.1 ∧ AllLt a.1 (T' ++ R'))
    (hTR : ∀ p ∈ T', ∀ q ∈ R', q.1 ≠ p.1) (hnI : ∀ p ∈ T' ++ R', @Ne Nat p.1 I) :
    ∃ R2 : Led, StAt w R2 R2 sU σ ∧ (∀ p ∈ R', p ∈ R2) ∧ (∀ p ∈ R2, p ∈ AU ++ (a :: b :: c :: d :: (I, oI) :: (T' ++ R'))) ∧ (∀ p ∈ T', ∀ q ∈ R2, q.1 ≠ p.1) ∧ ∀ q ∈ R2, @Ne Nat q.1 I := by
  refine ⟨AU ++ (a :: b :: c :: d :: R'), hSU.mono (fun p hp => List.mem_append_left _ hp) (fun p hp => hp), fun p hp => List.mem_append_right _ (.tail _ (.tail _ (.tail _ (.tail _ hp)))), fun p hp => ?_, fun p hp q hq => ?_, fun q hq => ?_⟩
  · simp only [List.mem_append, List.mem_cons] at hp ⊢
    rcases hp with h | h | h | h | h | h <;> simp [h]
  · have hp' : p ∈ T' ++ R' := List.mem_append_left _ hp
    rcases List.mem_append.mp hq with h | h
    · exact fun e => (ZU q h).get p (.tail _ (.tail _ (.tail _ (.tail _ (.tail _ hp'))))) e.symm
    · simp only [List.mem_cons] at h
      rcases h with rfl | rfl | rfl | rfl | h
      · exact Nat.ne_of_gt (kst_ltOf h1.2.2.2.2 p hp')
      · exact Nat.ne_of_gt (kst_ltOf h2.2.2.2 p hp')
      · exact Nat.ne_of_gt (kst_ltOf h3.2.2 p hp')
      · exact Nat.ne_of_gt (kst_ltOf h4.2 p hp')
      · exact hTR p hp q h
  · rcases List.mem_append.mp hq with h | h
    · exact fun e => (ZU q h).get (I, oI) (.tail _ (.tail _ (.tail _ (.tail _ (.head _))))) e.symm
    · simp only [List.mem_cons] at h
      rcases h with rfl | rfl | rfl | rfl | h
      · exact Nat.ne_of_gt h1.2.2.2.1
      · exact Nat.ne_of_gt h2.2.2.1
      · exact Nat.ne_of_gt h3.2.1
      · exact Nat.ne_of_gt h4.1
      · exact hnI q (List.mem_append_right _ h)
theorem laid_news {h₀ h : Heap} {L I : Addr} {oI : Obj} {AU T' R' R2 : Led} {a b c d : Addr × Obj} (hs2 : ∀ p ∈ R2, p ∈ AU ++ (a :: b :: c :: d :: (I, oI) :: (T' ++ R'))) (N : News h₀ L h (AU ++ (a :: b :: c :: d :: (I, oI) :: (T' ++ R')))) : News h₀ L h ((I, oI) :: (T' ++ R2)) := fun p hp => by
  simp only [List.mem_cons, List.mem_append] at hp
  rcases hp with h | h | h
  · exact N p (by simp [h])
  · exact N p (by simp [h])
  · exact N p (hs2 p h)
theorem drop_mid {a b c d e : Addr × Obj} {T R : Led} : ∀ p ∈ a :: b :: c :: d :: R, p ∈ a :: b :: c :: d :: e :: (T ++ R) := fun p hp => by
  simp only [List.mem_append, List.mem_cons] at hp ⊢
  rcases hp with h | h | h | h | h <;> simp [h]
theorem names_ints {σ : St} {y0 y1 y2 y3 : Th} {z0 z1 z2 z3 : Tok} {l : List Int} (h : σ.row = [y0, y1, y2, y3]) (e : nms σ = l) : IntsAre [.int y0.nm z0, .int y1.nm z1, .int y2.nm z2, .int y3.nm z3] l := by
  subst e
  unfold nms
  rw [h]
  exact .cons _ _ (.cons _ _ (.cons _ _ (.cons _ _ .nil)))
theorem loop_sort {h₀ h : Heap} {L : Addr} {a t : Addr × Obj} {R : Led} (N : News h₀ L h (a :: t :: R)) : News h₀ L h ([t] ++ (a :: R)) := fun p hp => N p (by
  simp only [List.mem_cons, List.cons_append, List.nil_append] at hp ⊢
  rcases hp with h | h | h <;> simp [h])

section
inductive LawJ (w : World) (R0 : Led) (d9 : Addr × Obj) (σ0 : St) (C : Int → Int → Int) (m : Str → Option Value) (b : Option Int) : (Str → Option Value) → Led → Prop
  | mk {m' : Str → Option Value} (T' R' : Led) (st : Addr) (σ : St) (h1 : d9 ∈ R') (h2 : OrdTab T') (h3 : ∀ p ∈ T', ∀ q ∈ R', q.1 ≠ p.1) (h4 : ∀ p ∈ R0, p ∈ R') (h5 : m' "state" = some (.ref st)) (h6 : StAt w R' R' st σ) (h7 : Reach σ0 σ) (h8 : ∀ s, b = some s → nms σ = srt (rks fun n => C n s)) (h9 : Agr ["size", "state"] m' m) : LawJ w R0 d9 σ0 C m b m' (T' ++ R')
theorem seg10 {w : World} {loose : List Str} {mean : ExcName → Option Value} {mg mb : Str → Option Value} {dp un : Nat} {gd : Option (List Code)} {outer : List Env} {A₀ : Around} {base g h₁ : Heap} {L stl cd tl wl colA st0 a0 a1 : Addr} {s₀ : Shared} {tk : Nat} {Q : Flow → Shared → Prop} {B : List Stmt} {sc : Scope} {m : Str → Option Value} {R0 : Led}
    {co wo so : Nat → Addr} {c : Nat → Int → Int} {C : Int → Int → Int} {σ0 : St} {th : Nat → Th} {v0 v1 : List Value} {n0 n1 nt : Nat}
    (hB : B = fB (stAt 28)) (hS : sc = fS (stAt 28)) (Bl : Below A₀ base outer g) (F : Fr g L h₁ m) (X : (K9 w.params).In g) (T : Top topProg loose mean mg mb g) (hd : dp + 8 < recursionLimit) (hu : un + 12 * 8 + 9 < cLine)
    (N : News g L h₁ (((242 : Addr), tabObj #[]) :: R0)) (hR2 : ∀ q ∈ R0, @Ne Nat q.1 242)
    (mS : m (Str.ofString "start") = some (.ref stl)) (mC : m (Str.ofString "clean") = some (.ref cd)) (mO : m (Str.ofString "columns") = some (.ref colA)) (mW : m (Str.ofString "walked") = some (.ref wl)) (mT : m (Str.ofString "tolls") = some (.ref tl)) (mA : m (Str.ofString "state") = some (.ref st0))
    (mcol : (colA, LCg.lst [.ref (co 0), .ref (co 1), .ref (co 2), .ref (co 3)]) ∈ R0) (hC : ColAt R0 [.ref (co 0), .ref (co 1), .ref (co 2), .ref (co 3)] C)
    (hk3 : ∀ n ∈ [(0 : Int), 1, 2, 3], C n 3 = n) (mwl : (wl, LCg.lst [.ref (wo 0), .ref (wo 1), .ref (wo 2), .ref (wo 3)]) ∈ R0) (hwo : ∀ i, i < 4 → ∃ z0 z1 z2 z3, (wo i, tupObj #[.int (c i 1) z0, .int (c i 2) z1, .int (c i 3) z2, .int (i : Int) z3]) ∈ R0)
    (hCc : ∀ i : Int, i = 0 ∨ i = 1 ∨ i = 2 → ∀ j : Nat, j < 4 → C (j : Int) i = c j (i + 1)) (mstl : (stl, LCg.lst [.ref (so 0), .ref (so 1), .ref (so 2), .ref (so 3)]) ∈ R0) (hth : ∀ i, i < 4 → ThAt R0 (so i) (th i))
    (mtl : (tl, listOf #[.ref a0, .ref a1] nt) ∈ R0) (ma0 : (a0, listOf (List.toArray v0) n0) ∈ R0) (ma1 : (a1, listOf (List.toArray v1) n1) ∈ R0) (hv0 : IntsAre v0 (tolls 0 [th 0, th 1, th 2, th 3])) (hv1 : IntsAre v1 (tolls 1 [th 0, th 1, th 2, th 3])) (l50 : (tolls 0 [th 0, th 1, th 2, th 3]).length = 5) (l51 : (tolls 1 [th 0, th 1, th 2, th 3]).length = 5)
    (hInv : Inv [th 0, th 1, th 2, th 3] σ0) (hn0 : nms σ0 = [0, 1, 2, 3])
    (hst0 : StAt w R0 R0 st0 σ0) (hst : ∀ (R' : Led) (s : Addr), (∀ p ∈ R0, p ∈ R') → (s, tupObj #[.ref stl, .ref cd]) ∈ R' → StAt w R' R' s σ0)
    (k : ∀ h' tk' (T' R' : Led) st σ m', Fr g L h' m' → News g L h' (T' ++ R') → OrdTab T' → (∀ p ∈ T', ∀ q ∈ R', q.1 ≠ p.1) → (∀ p ∈ R0, p ∈ R') → m' "state" = some (.ref st) → StAt w R' R' st σ → Reach σ0 σ → nms σ = srt (rks fun n => C n 2) → Agr ["size", "state"] m' m → Q .next { s₀ with heap := h', toks := tk' }) :
    wpAny (model PP w) (ktrTop dp un gd (Str.ofString "law") sc L 252 (.ref 251) (cellsFrom (L + 1) sc.names []) outer) (execs ((B.drop 10).take 1) (envX (Str.ofString "law") sc L 252 (.ref 251) (cellsFrom (L + 1) sc.names []))) Q (fun _ _ => False) { s₀ with heap := h₁, toks := tk } := by
  (k_with "left 66" => skip)
  (k_with "left 65" => skip)
  (k_with "left 68" => skip)
  (k_with "left 67" => skip)
  (k_with "my suf3" => (fail_if_success k_extra "left 70"); ((intro _ hp; repeat' first | exact hp | refine List.Mem.tail _ ?_ | refine List.mem_append_right _ ?_)))
  (k_with "my in3" => (fail_if_success k_extra "left 70"); ((repeat' first | assumption | refine List.Mem.tail _ ?_ | refine List.mem_append_right _ ?_)))
  (k_with "exec For Name Tuple" => (fail_if_success k_extra "left 70"); (walk_at "my for"))
  (k_with "pyIter ref" => (fail_if_success k_extra "left 70"); (fail "stop"))
  (k_with "my suf4" => (fail_if_success k_extra "left 70"); ((intro _ hp; repeat' first | exact hp | exact List.mem_append_left _ hp | refine List.Mem.tail _ ?_ | refine List.mem_append_right _ ?_)))
  (k_with "my suf5" => (fail_if_success k_extra "left 70"); ((intro _ hp; exact List.Mem.tail _ (List.mem_append_right _ (.tail _ (.tail _ hp))))))
  (k_with "call ref" => (fail_if_success k_extra "left 70"); ((k_here; (k_dflt (refine' con_use1 PState.el (laid_up (co := fun a b => cmp2 (C a sz) (C b sz) 1 (C a 3) (C b 3) 1) ?w₉st ?w₉c9 hcs ?w₉cmp ?w₉h10) ?w₉k1 ?w₉k2 ?w₉k3 ?w₉k4 ?w₉k5 ?w₉kK ?w₉kI ?w₉kd ?w₉ku ?_); (case w₉k4 => k_asm); (case w₉kI => exact drop_mid); (case w₉k1 => k_asm); (case w₉k2 => k_asm); (case w₉k3 => k_asm); (case w₉k5 => k_asm); (case w₉kK => first | exact rfl | assumption); (case w₉kd => (first | omega | ktr_room)); (case w₉ku => (first | omega | ktr_units)); (case w₉st => (refine' hSt.mono ?w₉sa ?w₉sb; (case w₉sa => walk_at "my suf3"); (case w₉sb => walk_at "my suf3"))); (case w₉c9 => walk_at "my in3"); (case w₉h10 => k_mem); (case w₉cmp => (refine' cmp2_at ?w₉h6 ?w₉h7 ?w₉h8 ?w₉hi ?w₉hi2 ?w₉hC; (case w₉h6 => k_mem); (case w₉h7 => k_mem); (case w₉h8 => k_mem); (case w₉hi => omega); (case w₉hi2 => decide); (case w₉hC => (refine' hC1.mono ?w₉sa; (case w₉sa => walk_at "my suf3"))))); k_whole; intro sU AU hSU hU tkU FU NU ZU; obtain ⟨R2, hS2, hs1, hs2, hs3, hs4⟩ := laid_pack hSU ZU (by assumption) (by assumption) (by assumption) (by assumption) hTR hnI; (replace NU := laid_news hs2 NU); clear hSU ZU hs2; (have mcol1 := hs1 _ mcol1); (have hC1 := hC1.mono hs1); (have hsub := fun p hp => hs1 p (hsub p hp))); (try dsimp only); (try k_sweep))))
  (k_with "call ref" => (fail_if_success k_extra "left 70"); ((k_here; (k_dflt (refine' con_use1 PState.el (laid_down (co := fun a b => cmp1 (C a sz) (C b sz) 1) ?w₉st ?w₉c9 hcs ?w₉cmp ?w₉h10) ?w₉k1 ?w₉k2 ?w₉k3 ?w₉k4 ?w₉k5 ?w₉kK ?w₉kI ?w₉kd ?w₉ku ?_); (case w₉k4 => k_asm); (case w₉kI => exact fun _ hp => hp); (case w₉k1 => k_asm); (case w₉k2 => k_asm); (case w₉k3 => k_asm); (case w₉k5 => k_asm); (case w₉kK => first | exact rfl | assumption); (case w₉kd => (first | omega | ktr_room)); (case w₉ku => (first | omega | ktr_units)); (case w₉st => (refine hst _ _ (fun p hp => ?_) ?_; (· have hp2 := hsub p hp; walk_at "my in3"); (· k_mem))); (case w₉c9 => walk_at "my in3"); (case w₉h10 => k_mem); (case w₉cmp => (refine' cmp1_at ?w₉h6 ?w₉h7 ?w₉hi ?w₉hC; (case w₉h6 => k_mem); (case w₉h7 => k_mem); (case w₉hi => omega); (case w₉hC => (refine' hC1.mono ?w₉sa; (case w₉sa => walk_at "my suf3"))))); k_whole; intro sD AD hSD hD tkD FD ND ZD); (try dsimp only); (try k_sweep))))
  (k_with "call ref" => (fail_if_success k_extra "left 70"); ((k_here; (k_dflt (refine' con_use1 PNames.el (names4_con (x0 := y0) (x1 := y1) (x2 := y2) (x3 := y3) ?w₉st hrow) ?w₉k1 ?w₉k2 ?w₉k3 ?w₉k4 ?w₉k5 ?w₉kK ?w₉kI ?w₉kd ?w₉ku ?_); (case w₉k4 => k_asm); (case w₉kI => exact fun _ hp => hp); (case w₉k1 => k_asm); (case w₉k2 => k_asm); (case w₉k3 => k_asm); (case w₉k5 => k_asm); (case w₉kK => first | exact rfl | assumption); (case w₉kd => (first | omega | ktr_room)); (case w₉ku => (first | omega | ktr_units)); (case w₉st => (refine' hS2.mono ?w₉sa ?w₉sb; (case w₉sa => walk_at "my suf4"); (case w₉sb => walk_at "my suf4"))); k_whole; intro ln z0 z1 z2 z3 hN tkN FN NN ZN; (try simp only [List.cons_append, List.nil_append] at NN)); (try dsimp only); (try k_sweep))))
  (k_with "compareOp NotEq ref ref" => (fail_if_success k_extra "left 70"); ((k_here; k_dflt (refine' ne_states ?w₉N ?w₉a ?w₉b (SameSt.of_eq hsame) ?w₉u ?_); (case w₉N => k_asm); (case w₉a => (refine' hS2.mono ?w₉sa ?w₉sb; (case w₉sa => walk_at "my suf4"); (case w₉sb => walk_at "my suf4"))); (case w₉b => (refine' hSD.mono ?w₉sa ?w₉sb; (case w₉sa => walk_at "my suf4"); (case w₉sb => walk_at "my suf4"))); (case w₉u => k_dflt (exact hu3)); k_whole)))
  (k_with "call ref" => (fail_if_success k_extra "left 70"); ((k_here; k_dflt (refine' con_use0 PBool.el hfc ?w₉k1 ?w₉k2 ?w₉k3 ?w₉k4 ?w₉k5 ?w₉kK ?w₉kI ?w₉kd ?w₉ku ?_); (case w₉k4 => k_asm); (case w₉kI => walk_at "my suf5"); (case w₉k1 => k_asm); (case w₉k2 => k_asm); (case w₉k3 => k_asm); (case w₉k5 => k_asm); (case w₉kK => first | exact rfl | assumption); (case w₉kd => (first | omega | ktr_room)); (case w₉ku => (first | omega | ktr_units)); k_whole; intro hF tkF FF NF; (try dsimp only); (try k_sweep))))
  (k_with "compareOp NotEq ref ref" => (fail_if_success k_extra "left 70"); ((k_here; k_dflt (refine' ne_list (xs := [.int y0.nm z0, .int y1.nm z1, .int y2.nm z2, .int y3.nm z3]) (ys := vo) ?w₉a ?w₉b ?w₉u ?w₉d ?_); (case w₉a => exact News.isList NO2 (.tail _ (List.mem_append_right _ (.head _)))); (case w₉b => exact News.isList NO2 (.head _)); (case w₉u => k_dflt (exact hu0)); (case w₉d => exact eq_ints hvn hvo); k_whole)))
  (conv at hB => rhs; whnf)
  (conv at hS => rhs; whnf)
  subst hB hS
  (try dsimp only [List.drop, List.take])
  (first | (refine letAE ?_; intro A9 E9) | skip)
  repeat' (first | ((fail_if_success (with_reducible show wpAny _ _ (pyIter _) _ _ _)); first | (k_unfold; (try dsimp only)) | (with_reducible refine hideQ ?_; intro Q9 hQ9) | (with_reducible refine hideQ2 ?_; intro Q9 hQ9) | (with_reducible refine hQ9 _ _ ?_; try clear hQ9 Q9) | walk1 | (dsimp only; walk1) | (dsimp only; k_unfold; (try dsimp only))) | fail "no step")
  rename News _ _ _ _ => N
  rename Fr _ _ _ _ => F
  rename _ ∧ AllLt _ _ => lA
  rename_i D9 h9
  refine' tupG_loop (R := [((242 : Addr), tabObj #[])] ++ ((D9, tupObj #[.int 0 tk, .int 1 (tk + 1), .int 2 (tk + 1 + 1)]) :: R0)) (α := {p : Int × Tok // p.1 = 0 ∨ p.1 = 1 ∨ p.1 = 2}) (xs := [⟨(0, tk), .inl rfl⟩, ⟨(1, tk + 1), .inr (.inl rfl)⟩, ⟨(2, tk + 1 + 1), .inr (.inr rfl)⟩]) (fun x => .int x.1.1 x.1.2) (fun _ x => some x.1.1)
    (LawJ w R0 (D9, tupObj #[.int 0 tk, .int 1 (tk + 1), .int 2 (tk + 1 + 1)]) σ0 C m)
    none ?hh ?hF ?hN ?hm ?hJ ?step ?fin
  (case hh => rfl)
  (case hF => exact F)
  (case hN => exact loop_sort N)
  (case hm => exact List.mem_append_right _ (.head _))
  (case hJ => exact .mk [((242 : Addr), tabObj #[])] _ st0 σ0 (.head _) (.inl rfl) (List.forall_mem_singleton.mpr (all_cons (Nat.ne_of_gt lA.1) (hR2))) (fun p hp => .tail _ hp) mA (hst0.mono (fun p hp => .tail _ hp) (fun p hp => .tail _ hp)) (Reach.start _) (fun s h => (nomatch h)) Agr.refl)
  (case step =>
    rintro I ⟨⟨sz, tsz⟩, hsz⟩ b m1 news ⟨T', R', st, σ, hd9, hT', hTR, hsub, mSt, hSt, hRe, _, hA⟩ hnI htup J' Q' hJ' hQ' oI h2 tk2 F2 N2
    have mS1 : m1 (Str.ofString "start") = some (.ref stl) := hA.get rfl mS
    have mC1 : m1 (Str.ofString "clean") = some (.ref cd) := hA.get rfl mC
    have mO1 : m1 (Str.ofString "columns") = some (.ref colA) := hA.get rfl mO
    have mW1 : m1 (Str.ofString "walked") = some (.ref wl) := hA.get rfl mW
    have mT1 : m1 (Str.ofString "tolls") = some (.ref tl) := hA.get rfl mT
    have mcol1 : (colA, listOf (List.toArray [.ref (co 0), .ref (co 1), .ref (co 2), .ref (co 3)]) 4) ∈ R' := hsub _ mcol
    have hC1 := hC.mono hsub
    have hsz' : sz = 0 ∨ sz = 1 ∨ sz = 2 := hsz
    have hcs : ∀ n : Int, 0 ≤ n → n < 4 → ∃ e, [Value.ref (co 0), .ref (co 1), .ref (co 2), .ref (co 3)][n.toNat]? = some (.ref e) := fun n h1 h2 => by
      have : n = 0 ∨ n = 1 ∨ n = 2 ∨ n = 3 := by omega
      rcases this with rfl | rfl | rfl | rfl <;> exact ⟨_, rfl⟩
    have good := hInv.good
    have hsame := rise_same good hn0 hRe (col := fun n => C n sz) hk3
    have hnm := rise_names good hn0 hRe (col := fun n => C n sz) hk3
    have hRe2 := hRe.turns good (fun a b => cmp2 (C a sz) (C b sz) 1 (C a 3) (C b 3) 1) ups_lt
    have hord : ∀ (rest : Led) (tt : Tok), (∀ p ∈ R0, p ∈ rest) → (∀ p ∈ T', ∀ q ∈ rest, q.1 ≠ p.1) → Con w 2 247 [.ref wl, .int sz tt] T' rest (POrd (srt (rks fun n => C n sz))) := fun rest tt h1 h2 =>
      order_any (n := 4) hT' h2 (h1 _ mwl) (fun i hi => let ⟨z0, z1, z2, z3, q⟩ := hwo i hi; ⟨z0, z1, z2, z3, h1 _ q⟩) hsz' (fun j hj => hCc sz hsz' j hj)
    have hu3 : un + 3 < cLine := by omega
    have hu0 : un < cLine := by omega
    have hgood2 := hRe2.good good
    obtain ⟨y0, y1, y2, y3, hrow⟩ := four_of (show (ups.foldl (turn fun a b => cmp2 (C a sz) (C b sz) 1 (C a 3) (C b 3) 1) σ).row.length = 4 by obtain ⟨a, b, c, d, e, _⟩ := hgood2; rw [e]; rfl)
    have hFit := inv_fits (hRe2.inv hInv)
    (try dsimp only)
    repeat' (first | (k_unfold; (try dsimp only)) | (with_reducible refine hideQ ?_; intro Q9 hQ9) | (with_reducible refine hideQ2 ?_; intro Q9 hQ9) | (with_reducible refine hQ9 _ _ ?_; try clear hQ9 Q9) | walk1 | (dsimp only; walk1) | (dsimp only; k_unfold; (try dsimp only)) | fail "no step")
    rename News _ _ _ _ => NO
    have hMO : ∀ p ∈ T', ∀ q ∈ (ln, listOf #[.int y0.nm z0, .int y1.nm z1, .int y2.nm z2, .int y3.nm z3] 4) :: (I, oI) :: R2, q.1 ≠ p.1 := fun p hp => List.forall_mem_cons.mpr ⟨fun e => (ZN _ (.head _)).get p (by
      first
        | exact List.mem_append_right _ (.tail _ (.tail _ (.tail _ (.tail _ (.tail _ (List.mem_append_left _ hp))))))
        | exact .tail _ (.tail _ (.tail _ (.tail _ (.tail _ (List.mem_append_left _ hp)))))) e.symm, all_cons (fun e => hnI p (List.mem_append_left _ hp) e.symm) (hs3 p hp)⟩
    refine con_useM POrd.el (hord _ _ (fun p hp => .tail _ (.tail _ (hsub p hp))) hMO) (by k_asm) (by k_asm) (by k_asm) (fun p hp => NO p ?_) (by k_asm) rfl (fun p hp => hp) hMO (by omega) (by omega) ?_
    (· simp only [List.mem_append, List.mem_cons] at hp ⊢
       rcases hp with h | h | h | h <;> simp [h])
    intro lo vo mo T2 hT2 hvo hO tkO FO NO2 ZO
    have hvn := names_ints (z0 := z0) (z1 := z1) (z2 := z2) (z3 := z3) hrow hnm
    have hfc := fits4 (w := w) hS2 (hsub _ mstl) (fun i hi => (hth i hi).mono hsub) (hsub _ mtl) (hsub _ ma0) (hsub _ ma1) hv0 hv1 l50 l51 hFit
    clear NO ZN ZD
    simp only [List.cons_append] at NO2
    (try dsimp only)
    repeat' (first | (k_unfold; (try dsimp only)) | (with_reducible refine hideQ ?_; intro Q9 hQ9) | (with_reducible refine hideQ2 ?_; intro Q9 hQ9) | (with_reducible refine hQ9 _ _ ?_; try clear hQ9 Q9) | walk1 | (dsimp only; walk1) | (dsimp only; k_unfold; (try dsimp only)) | fail "no step")
    rename News _ _ _ _ => NF
    rename Fr _ _ _ _ => FF
    refine ⟨_, _, _, _, T2 ++ R2, rfl, FF, NF, .tail _ (List.mem_append_right _ (.tail _ (.head _))), fun p hp => ?_, fun p hp => ?_, List.mem_append_right _ (hs1 _ hd9), hJ' _ _ (.mk T2 R2 sU _ (hs1 _ hd9) hT2 (fun p hp q hq => (ZO p (.tail _ hp)).get q (.tail _ (.tail _ hq))) hsub (by first | rfl | k_asm) hS2 hRe2 (fun s h => (by cases h; exact hnm)) (by repeat (first | exact hA | refine Agr.set ?_ rfl)))⟩
    · rcases List.mem_append.mp hp with h | h
      · exact .tail _ (List.mem_append_left _ h)
      · exact .tail _ (List.mem_append_right _ (.tail _ (.tail _ h)))
    · rcases List.mem_append.mp hp with h | h
      · exact fun e => (ZO p (.tail _ h)).get (I, oI) (.tail _ (.head _)) e.symm
      · exact hs4 p h)
  (case fin =>
    rintro m1 news ⟨T', R', st, σ, _, hT', hTR, hsub, mSt, hSt, hRe, hn, hA⟩ h tk2 F2 N2
    (try dsimp only)
    repeat' (first | (k_unfold; (try dsimp only)) | (with_reducible refine hideQ ?_; intro Q9 hQ9) | (with_reducible refine hideQ2 ?_; intro Q9 hQ9) | (with_reducible refine hQ9 _ _ ?_; try clear hQ9 Q9) | walk1 | (dsimp only; walk1) | (dsimp only; k_unfold; (try dsimp only)) | fail "no step")
    exact k _ _ _ _ _ _ _ F2 N2 hT' hTR hsub mSt hSt hRe (hn 2 rfl) hA)
end

end
section
theorem laid_pack2 {w : World} {AU T' R' : Led} {sU : Addr} {a b c d : Addr × Obj} {σ : St} (hSU : StAt w AU (AU ++ (a :: b :: c :: d :: R')) sU σ) (ZU : ∀ p ∈ AU, AptL p.1 (a :: b :: c :: d :: (T' ++ R')))
    (h4 : ∀ p ∈ T' ++ R', p.1 < d.1) (h3 : d.1 < c.1 ∧ AllLt c.1 (T' ++ R')) (h2 : c.1 < b.1 ∧ d.1 < b.1 ∧ AllLt b.1 (T' ++ R')) (h1 : b.1 < a.1 ∧ c.1 < a.1 ∧ d.1 < a.1 ∧ AllLt a.1 (T' ++ R'))
    (hTR : ∀ p ∈ T', ∀ q ∈ R', q.1 ≠ p.1) :
    ∃ R2 : Led, StAt w R2 R2 sU σ ∧ (∀ p ∈ R', p ∈ R2) ∧ (∀ p ∈ R2, p ∈ AU ++ (a :: b :: c :: d :: (T' ++ R'))) ∧ (∀ p ∈ T', ∀ q ∈ R2, q.1 ≠ p.1) := by
  refine ⟨AU ++ (a :: b :: c :: d :: R'), hSU.mono (fun p hp => List.mem_append_left _ hp) (fun p hp => hp), fun p hp => List.mem_append_right _ (.tail _ (.tail _ (.tail _ (.tail _ hp)))), fun p hp => ?_, fun p hp q hq => ?_⟩
  · simp only [List.mem_append, List.mem_cons] at hp ⊢
    rcases hp with h | h | h | h | h | h <;> simp [h]
  · have hp' : p ∈ T' ++ R' := List.mem_append_left _ hp
    rcases List.mem_append.mp hq with h | h
    · exact fun e => (ZU q h).get p (.tail _ (.tail _ (.tail _ (.tail _ hp')))) e.symm
    · simp only [List.mem_cons] at h
      rcases h with rfl | rfl | rfl | rfl | h
      · exact Nat.ne_of_gt (kst_ltOf h1.2.2.2 p hp')
      · exact Nat.ne_of_gt (kst_ltOf h2.2.2 p hp')
      · exact Nat.ne_of_gt (kst_ltOf h3.2 p hp')
      · exact Nat.ne_of_gt (h4 p hp')
      · exact hTR p hp q h
theorem laid_news2 {h₀ h : Heap} {L : Addr} {AU T' R' R2 : Led} {a b c d : Addr × Obj} (hs2 : ∀ p ∈ R2, p ∈ AU ++ (a :: b :: c :: d :: (T' ++ R'))) (N : News h₀ L h (AU ++ (a :: b :: c :: d :: (T' ++ R')))) : News h₀ L h (T' ++ R2) := fun p hp => by
  simp only [List.mem_append] at hp
  rcases hp with h | h
  · exact N p (by simp [h])
  · exact N p (hs2 p h)
theorem drop_mid2 {a b c d : Addr × Obj} {T R : Led} : ∀ p ∈ a :: b :: c :: d :: R, p ∈ a :: b :: c :: d :: (T ++ R) := fun p hp => by
  simp only [List.mem_append, List.mem_cons] at hp ⊢
  rcases hp with h | h | h | h | h <;> simp [h]

section
theorem seg11 {w : World} {loose : List Str} {mean : ExcName → Option Value} {mg mb : Str → Option Value} {dp un : Nat} {gd : Option (List Code)} {outer : List Env} {A₀ : Around} {base g h₁ : Heap} {L colA st : Addr} {s₀ : Shared} {tk : Nat} {Q : Flow → Shared → Prop} {E : Value → Shared → Prop} {B : List Stmt} {sc : Scope} {m : Str → Option Value} {T' R' : Led}
    {co : Nat → Addr} {C : Int → Int → Int} {σ : St}
    (hB : B = fB (stAt 28)) (hS : sc = fS (stAt 28)) (Bl : Below A₀ base outer g) (F : Fr g L h₁ m) (X : (K9 w.params).In g) (T : Top topProg loose mean mg mb g) (hd : dp + 8 < recursionLimit) (hu : un + 12 * 8 + 9 < cLine)
    (N : News g L h₁ (T' ++ R')) (hTR : ∀ p ∈ T', ∀ q ∈ R', q.1 ≠ p.1)
    (mO : m (Str.ofString "columns") = some (.ref colA)) (mA : m (Str.ofString "state") = some (.ref st))
    (mcol1 : (colA, listOf (List.toArray [.ref (co 0), .ref (co 1), .ref (co 2), .ref (co 3)]) 4) ∈ R') (hC1 : ColAt R' [.ref (co 0), .ref (co 1), .ref (co 2), .ref (co 3)] C) (hSt : StAt w R' R' st σ)
    (k : ∀ h' tk' (R2 : Led) sF, Fr g L h' (fun y => if y = Str.ofString "falling" then some (.ref sF) else m y) → News g L h' (T' ++ R2) → (∀ p ∈ R', p ∈ R2) → (∀ p ∈ T', ∀ q ∈ R2, q.1 ≠ p.1) → StAt w R2 R2 sF (ups.foldl (turn fun a b => cmp2 (C a 2) (C b 2) (-1) (C a 3) (C b 3) (-1)) σ) → Q .next { s₀ with heap := h', toks := tk' }) :
    wpAny (model PP w) (ktrTop dp un gd (Str.ofString "law") sc L 252 (.ref 251) (cellsFrom (L + 1) sc.names []) outer) (execs ((B.drop 11).take 1) (envX (Str.ofString "law") sc L 252 (.ref 251) (cellsFrom (L + 1) sc.names []))) Q E { s₀ with heap := h₁, toks := tk } := by
  (k_with "left 70" => skip)
  (k_with "left 69" => skip)
  (k_with "my suf3" => (fail_if_success k_extra "left 72"); ((intro _ hp; repeat' first | exact hp | refine List.Mem.tail _ ?_ | refine List.mem_append_right _ ?_)))
  (k_with "my in3" => (fail_if_success k_extra "left 72"); ((repeat' first | assumption | refine List.Mem.tail _ ?_ | refine List.mem_append_right _ ?_)))
  (k_with "call ref" => (fail_if_success k_extra "left 72"); ((k_here; (k_dflt (refine' con_use1 PState.el (laid_up (co := fun a b => cmp2 (C a 2) (C b 2) (-1) (C a 3) (C b 3) (-1)) ?w₉st ?w₉c9 hcs ?w₉cmp ?w₉h10) ?w₉k1 ?w₉k2 ?w₉k3 ?w₉k4 ?w₉k5 ?w₉kK ?w₉kI ?w₉kd ?w₉ku ?_); (case w₉k4 => k_asm); (case w₉kI => exact drop_mid2); (case w₉k1 => k_asm); (case w₉k2 => k_asm); (case w₉k3 => k_asm); (case w₉k5 => k_asm); (case w₉kK => first | exact rfl | assumption); (case w₉kd => (first | omega | ktr_room)); (case w₉ku => (first | omega | ktr_units)); (case w₉st => (refine' hSt.mono ?w₉sa ?w₉sb; (case w₉sa => walk_at "my suf3"); (case w₉sb => walk_at "my suf3"))); (case w₉c9 => walk_at "my in3"); (case w₉h10 => k_mem); (case w₉cmp => (refine' cmp2_at ?w₉h6 ?w₉h7 ?w₉h8 ?w₉hi ?w₉hi2 ?w₉hC; (case w₉h6 => k_mem); (case w₉h7 => k_mem); (case w₉h8 => k_mem); (case w₉hi => decide); (case w₉hi2 => decide); (case w₉hC => (refine' hC1.mono ?w₉sa; (case w₉sa => walk_at "my suf3"))))); k_whole; intro sU AU hSU hU tkU FU NU ZU; obtain ⟨R2, hS2, hs1, hs2, hs3⟩ := laid_pack2 hSU ZU (by assumption) (by assumption) (by assumption) (by assumption) hTR; (replace NU := laid_news2 hs2 NU); clear hSU ZU hs2); (try dsimp only); (try k_sweep))))
  (conv at hB => rhs; whnf)
  (conv at hS => rhs; whnf)
  subst hB hS
  (try dsimp only [List.drop, List.take])
  (first | (refine letAE ?_; intro A9 E9) | skip)
  have hcs : ∀ n : Int, 0 ≤ n → n < 4 → ∃ e, [Value.ref (co 0), .ref (co 1), .ref (co 2), .ref (co 3)][n.toNat]? = some (.ref e) := fun n h1 h2 => by
    have : n = 0 ∨ n = 1 ∨ n = 2 ∨ n = 3 := by omega
    rcases this with rfl | rfl | rfl | rfl <;> exact ⟨_, rfl⟩
  repeat' (first | (k_unfold; (try dsimp only)) | (with_reducible refine hideQ ?_; intro Q9 hQ9) | (with_reducible refine hideQ2 ?_; intro Q9 hQ9) | (with_reducible refine hQ9 _ _ ?_; try clear hQ9 Q9) | walk1 | (dsimp only; walk1) | (dsimp only; k_unfold; (try dsimp only)) | fail "no step")
  rename News _ _ _ _ => N3
  rename Fr _ _ _ _ => F3
  exact k _ _ _ _ F3 N3 hs1 hs3 hS2
end

end
section
theorem ints8 {σ τ : St} {y0 y1 y2 y3 x0 x1 x2 x3 : Th} {z0 z1 z2 z3 z4 z5 z6 z7 : Tok} {l k : List Int} (h : σ.row = [y0, y1, y2, y3]) (h' : τ.row = [x0, x1, x2, x3]) (e : nms σ = l) (e' : nms τ = k) : IntsAre [.int y0.nm z0, .int y1.nm z1, .int y2.nm z2, .int y3.nm z3, .int x0.nm z4, .int x1.nm z5, .int x2.nm z6, .int x3.nm z7] (l ++ k) := by
  subst e e'
  unfold nms
  rw [h, h']
  exact .cons _ _ (.cons _ _ (.cons _ _ (.cons _ _ (.cons _ _ (.cons _ _ (.cons _ _ (.cons _ _ .nil)))))))
theorem len8' {σ τ : St} {l k : List Int} (r1 : σ.row.length = 4) (r2 : τ.row.length = 4) (e : nms σ = l) (e' : nms τ = k) : (l ++ k).length = 8 := by
  subst e e'
  simp [nms, r1, r2]

section
theorem seg12 {w : World} {loose : List Str} {mean : ExcName → Option Value} {mg mb : Str → Option Value} {dp un : Nat} {gd : Option (List Code)} {outer : List Env} {A₀ : Around} {base g h₁ : Heap} {L st sF : Addr} {s₀ : Shared} {tk : Nat} {Q : Flow → Shared → Prop} {E : Value → Shared → Prop} {B : List Stmt} {sc : Scope} {m : Str → Option Value} {W : Led}
    {σ τ : St} {la lb : List Int}
    (hB : B = fB (stAt 28)) (hS : sc = fS (stAt 28)) (Bl : Below A₀ base outer g) (F : Fr g L h₁ m) (X : (K9 w.params).In g) (T : Top topProg loose mean mg mb g) (hd : dp + 8 < recursionLimit) (hu : un + 12 * 8 + 9 < cLine)
    (N : News g L h₁ W) (mA : m (Str.ofString "state") = some (.ref st)) (mF : m (Str.ofString "falling") = some (.ref sF)) (hSt : StAt w W W st σ) (hSf : StAt w W W sF τ)
    (r1 : σ.row.length = 4) (r2 : τ.row.length = 4) (n1 : nms σ = la) (n2 : nms τ = lb) (hin : KBa.In (la ++ lb))
    (k : ∀ h' tk' t', Fr g L h' (fun y => if y = Str.ofString "mirror" then some (.bytes (byteArr (bsw (la ++ lb) 8)) t') else m y) → News g L h' W → Q .next { s₀ with heap := h', toks := tk' }) :
    wpK (model PP w) (ktrTop dp un gd (Str.ofString "law") sc L 252 (.ref 251) (cellsFrom (L + 1) sc.names []) outer) (execs ((B.drop 12).take 1) (envX (Str.ofString "law") sc L 252 (.ref 251) (cellsFrom (L + 1) sc.names []))) Q E { s₀ with heap := h₁, toks := tk } := by
  (k_with "left 72" => skip)
  (k_with "left 71" => skip)
  (k_with "my suf3" => (fail_if_success k_extra "left 74"); ((intro _ hp; repeat' first | exact hp | refine List.Mem.tail _ ?_ | refine List.mem_append_right _ ?_)))
  (k_with "call ref" => (fail_if_success k_extra "left 74"); ((k_here; (k_dflt (refine' con_use1 PNames.el (names4_con (x0 := y0) (x1 := y1) (x2 := y2) (x3 := y3) ?w₉st hrow) ?w₉k1 ?w₉k2 ?w₉k3 ?w₉k4 ?w₉k5 ?w₉kK ?w₉kI ?w₉kd ?w₉ku ?_); (case w₉k4 => k_asm); (case w₉kI => exact fun _ hp => hp); (case w₉k1 => k_asm); (case w₉k2 => k_asm); (case w₉k3 => k_asm); (case w₉k5 => k_asm); (case w₉kK => first | exact rfl | assumption); (case w₉kd => (first | omega | ktr_room)); (case w₉ku => (first | omega | ktr_units)); (case w₉st => (refine' (StAt.mono hSt ?w₉sa ?w₉sb); (case w₉sa => walk_at "my suf3"); (case w₉sb => walk_at "my suf3"))); k_whole; intro lny zy0 zy1 zy2 zy3 hN tkN FN NN ZN; (try simp only [List.cons_append, List.nil_append] at NN)); (try dsimp only); (try k_sweep))))
  (k_with "call ref" => (fail_if_success k_extra "left 74"); ((k_here; (k_dflt (refine' con_use1 PNames.el (names4_con (x0 := x0) (x1 := x1) (x2 := x2) (x3 := x3) ?w₉st hrof) ?w₉k1 ?w₉k2 ?w₉k3 ?w₉k4 ?w₉k5 ?w₉kK ?w₉kI ?w₉kd ?w₉ku ?_); (case w₉k4 => k_asm); (case w₉kI => exact fun _ hp => hp); (case w₉k1 => k_asm); (case w₉k2 => k_asm); (case w₉k3 => k_asm); (case w₉k5 => k_asm); (case w₉kK => first | exact rfl | assumption); (case w₉kd => (first | omega | ktr_room)); (case w₉ku => (first | omega | ktr_units)); (case w₉st => (refine' (StAt.mono hSf ?w₉sa ?w₉sb); (case w₉sa => walk_at "my suf3"); (case w₉sb => walk_at "my suf3"))); k_whole; intro lnx zx0 zx1 zx2 zx3 hN tkN FN NN ZN; (try simp only [List.cons_append, List.nil_append] at NN)); (try dsimp only); (try k_sweep))))
  (k_with "call type:bytes" => (fail_if_success k_extra "left 74"); ((k_here; (rename News _ _ _ _ => N0); (rename Fr _ _ _ _ => F0); k_dflt (refine' KBa.make_K (ns := la ++ lb) F0 N0 rfl (News.isList N0 (.head _)) (ints8 hrow hrof n1 n2) hin (by rw [hl8]; decide) ?_); intro hB tB kB FB NB _)))
  (conv at hB => rhs; whnf)
  (conv at hS => rhs; whnf)
  subst hB hS
  (try dsimp only [List.drop, List.take])
  (first | (refine letAE ?_; intro A9 E9) | skip)
  obtain ⟨y0, y1, y2, y3, hrow⟩ := four_of r1
  obtain ⟨x0, x1, x2, x3, hrof⟩ := four_of r2
  have hl8 := len8' r1 r2 n1 n2
  refine execsK_cons (assignK (evalCallK ?_))
  (try dsimp only)
  repeat' (first | (k_unfold; (try dsimp only)) | (with_reducible refine hideQ ?_; intro Q9 hQ9) | (with_reducible refine hideQ2 ?_; intro Q9 hQ9) | (with_reducible refine hQ9 _ _ ?_; try clear hQ9 Q9) | walk1 | (dsimp only; walk1) | (dsimp only; k_unfold; (try dsimp only)) | fail "no step")
  refine callWithK (K := K9 w.params) (by k_dflt k_is) ?_
  repeat' (first | (k_unfold; (try dsimp only)) | (with_reducible refine hideQ ?_; intro Q9 hQ9) | (with_reducible refine hideQ2 ?_; intro Q9 hQ9) | (with_reducible refine hQ9 _ _ ?_; try clear hQ9 Q9) | walk1 | (dsimp only; walk1) | (dsimp only; k_unfold; (try dsimp only)) | fail "no step")
  refine conK_use PBytes.el (swap_con (KBa.ints_make hin) hl8) (by k_asm) (by k_asm) (by k_asm) NB (by k_asm) rfl (fun p hp => hp) (by omega) (by omega) ?_
  intro t' h' tk' FR NR
  repeat' (first | (k_unfold; (try dsimp only)) | (with_reducible refine hideQ ?_; intro Q9 hQ9) | (with_reducible refine hideQ2 ?_; intro Q9 hQ9) | (with_reducible refine hQ9 _ _ ?_; try clear hQ9 Q9) | walk1 | (dsimp only; walk1) | (dsimp only; k_unfold; (try dsimp only)) | fail "no step")
  refine wpK.of ?_
  repeat' (first | (k_unfold; (try dsimp only)) | (with_reducible refine hideQ ?_; intro Q9 hQ9) | (with_reducible refine hideQ2 ?_; intro Q9 hQ9) | (with_reducible refine hQ9 _ _ ?_; try clear hQ9 Q9) | walk1 | (dsimp only; walk1) | (dsimp only; k_unfold; (try dsimp only)) | fail "no step")
  rename News _ _ _ _ => N5
  rename Fr _ _ _ _ => F5
  exact k _ _ _ F5 (news_sub N5 fun p hp => .tail _ (.tail _ (.tail _ hp)))
end

end
section
theorem bsw_rev {a b c d : Int} : bsw ([a, b, c, d] ++ [d, c, b, a]) 8 = [d, c, b, a] ++ [a, b, c, d] := rfl

section
theorem seg13 {w : World} {loose : List Str} {mean : ExcName → Option Value} {mg mb : Str → Option Value} {dp un : Nat} {gd : Option (List Code)} {outer : List Env} {A₀ : Around} {base g h₁ : Heap} {L st sF : Addr} {s₀ : Shared} {tk : Nat} {Q : Flow → Shared → Prop} {E : Value → Shared → Prop} {B : List Stmt} {sc : Scope} {m : Str → Option Value} {W : Led}
    {σ τ : St} {la lb : List Int} {tm : Tok}
    (hB : B = fB (stAt 28)) (hS : sc = fS (stAt 28)) (Bl : Below A₀ base outer g) (F : Fr g L h₁ m) (X : (K9 w.params).In g) (T : Top topProg loose mean mg mb g) (hd : dp + 8 < recursionLimit) (hu : un + 12 * 8 + 9 < cLine)
    (N : News g L h₁ W) (mA : m (Str.ofString "state") = some (.ref st)) (mF : m (Str.ofString "falling") = some (.ref sF)) (hSt : StAt w W W st σ) (hSf : StAt w W W sF τ) (mM : m (Str.ofString "mirror") = some (.bytes (byteArr (lb ++ la)) tm))
    (r1 : σ.row.length = 4) (r2 : τ.row.length = 4) (n1 : nms σ = la) (n2 : nms τ = lb) (hin : KBa.In (lb ++ la))
    (k : ∀ h' tk', Fr g L h' m → News g L h' W → Q .next { s₀ with heap := h', toks := tk' }) :
    wpAny (model PP w) (ktrTop dp un gd (Str.ofString "law") sc L 252 (.ref 251) (cellsFrom (L + 1) sc.names []) outer) (execs ((B.drop 13).take 1) (envX (Str.ofString "law") sc L 252 (.ref 251) (cellsFrom (L + 1) sc.names []))) Q E { s₀ with heap := h₁, toks := tk } := by
  (k_with "left 74" => skip)
  (k_with "left 73" => skip)
  (k_with "my suf3" => (fail_if_success k_extra "left 76"); ((intro _ hp; repeat' first | exact hp | refine List.Mem.tail _ ?_ | refine List.mem_append_right _ ?_)))
  (k_with "call ref" => (fail_if_success k_extra "left 76"); ((k_here; (k_dflt (refine' con_use1 PNames.el (names4_con (x0 := y0) (x1 := y1) (x2 := y2) (x3 := y3) ?w₉st hrow) ?w₉k1 ?w₉k2 ?w₉k3 ?w₉k4 ?w₉k5 ?w₉kK ?w₉kI ?w₉kd ?w₉ku ?_); (case w₉k4 => k_asm); (case w₉kI => exact fun _ hp => hp); (case w₉k1 => k_asm); (case w₉k2 => k_asm); (case w₉k3 => k_asm); (case w₉k5 => k_asm); (case w₉kK => first | exact rfl | assumption); (case w₉kd => (first | omega | ktr_room)); (case w₉ku => (first | omega | ktr_units)); (case w₉st => (refine' (StAt.mono hSt ?w₉sa ?w₉sb); (case w₉sa => walk_at "my suf3"); (case w₉sb => walk_at "my suf3"))); k_whole; intro lny zy0 zy1 zy2 zy3 hN tkN FN NN ZN; (try simp only [List.cons_append, List.nil_append] at NN)); (try dsimp only); (try k_sweep))))
  (k_with "call ref" => (fail_if_success k_extra "left 76"); ((k_here; (k_dflt (refine' con_use1 PNames.el (names4_con (x0 := x0) (x1 := x1) (x2 := x2) (x3 := x3) ?w₉st hrof) ?w₉k1 ?w₉k2 ?w₉k3 ?w₉k4 ?w₉k5 ?w₉kK ?w₉kI ?w₉kd ?w₉ku ?_); (case w₉k4 => k_asm); (case w₉kI => exact fun _ hp => hp); (case w₉k1 => k_asm); (case w₉k2 => k_asm); (case w₉k3 => k_asm); (case w₉k5 => k_asm); (case w₉kK => first | exact rfl | assumption); (case w₉kd => (first | omega | ktr_room)); (case w₉ku => (first | omega | ktr_units)); (case w₉st => (refine' (StAt.mono hSf ?w₉sa ?w₉sb); (case w₉sa => walk_at "my suf3"); (case w₉sb => walk_at "my suf3"))); k_whole; intro lnx zx0 zx1 zx2 zx3 hN tkN FN NN ZN; (try simp only [List.cons_append, List.nil_append] at NN)); (try dsimp only); (try k_sweep))))
  (k_with "call type:list" => (fail_if_success k_extra "left 76"); ((k_here; (rename News _ _ _ _ => N0); (rename Fr _ _ _ _ => F0); k_dflt (refine' list_bytes rfl F0 N0 (KBa.ints_make hin) (by rw [hln8]; decide) ?_); intro DB hB tB vsB nB FB NB ltB iB; replace ltB := allLt_of ltB)))
  (conv at hB => rhs; whnf)
  (conv at hS => rhs; whnf)
  subst hB hS
  (try dsimp only [List.drop, List.take])
  (first | (refine letAE ?_; intro A9 E9) | skip)
  obtain ⟨y0, y1, y2, y3, hrow⟩ := four_of r1
  obtain ⟨x0, x1, x2, x3, hrof⟩ := four_of r2
  have hln8 := len8' r2 r1 n2 n1
  have hu0 : un < cLine := by omega
  repeat' (first | (k_unfold; (try dsimp only)) | (with_reducible refine hideQ ?_; intro Q9 hQ9) | (with_reducible refine hideQ2 ?_; intro Q9 hQ9) | (with_reducible refine hQ9 _ _ ?_; try clear hQ9 Q9) | walk1 | (dsimp only; walk1) | (dsimp only; k_unfold; (try dsimp only)) | fail "no step")
  · rename News _ _ _ _ => N5
    rename Fr _ _ _ _ => F5
    exact k _ _ F5 (news_sub N5 fun p hp => .tail _ (.tail _ (.tail _ (.tail _ hp))))
  · rename ¬(_ = _) => hne
    exact absurd (by subst n1 n2; unfold nms; rw [hrow, hrof]; rfl) hne
end

end
section
section
theorem seg14 {w : World} {loose : List Str} {mean : ExcName → Option Value} {mg mb : Str → Option Value} {dp un : Nat} {gd : Option (List Code)} {outer : List Env} {A₀ : Around} {base g h₁ : Heap} {L st sF stl tl : Addr} {s₀ : Shared} {tk : Nat} {Q : Flow → Shared → Prop} {E : Value → Shared → Prop} {B : List Stmt} {sc : Scope} {m : Str → Option Value} {W : Led}
    (hB : B = fB (stAt 28)) (hS : sc = fS (stAt 28)) (Bl : Below A₀ base outer g) (F : Fr g L h₁ m) (X : (K9 w.params).In g) (T : Top topProg loose mean mg mb g) (hd : dp + 8 < recursionLimit) (hu : un + 12 * 8 + 9 < cLine)
    (N : News g L h₁ W) (mA : m (Str.ofString "state") = some (.ref st)) (mF : m (Str.ofString "falling") = some (.ref sF)) (mS : m (Str.ofString "start") = some (.ref stl)) (mT : m (Str.ofString "tolls") = some (.ref tl))
    (hfc : Con w 3 233 [.ref sF, .ref stl, .ref tl] [] W (PBool true)) (hcc : Con w 3 240 [.ref st, .ref sF, .ref stl, .ref tl] [] W (PBool true))
    (k : ∀ h' tk', Fr g L h' m → News g L h' W → Q .next { s₀ with heap := h', toks := tk' }) :
    wpAny (model PP w) (ktrTop dp un gd (Str.ofString "law") sc L 252 (.ref 251) (cellsFrom (L + 1) sc.names []) outer) (execs ((B.drop 14).take 1) (envX (Str.ofString "law") sc L 252 (.ref 251) (cellsFrom (L + 1) sc.names []))) Q E { s₀ with heap := h₁, toks := tk } := by
  (k_with "left 76" => skip)
  (k_with "left 75" => skip)
  (k_with "call ref" => (fail_if_success k_extra "left 78"); ((k_here; k_dflt (refine' con_use0 PBool.el hfc ?w₉k1 ?w₉k2 ?w₉k3 ?w₉k4 ?w₉k5 ?w₉kK ?w₉kI ?w₉kd ?w₉ku ?_); (case w₉k4 => k_asm); (case w₉kI => exact fun _ hp => hp); (case w₉k1 => k_asm); (case w₉k2 => k_asm); (case w₉k3 => k_asm); (case w₉k5 => k_asm); (case w₉kK => first | exact rfl | assumption); (case w₉kd => (first | omega | ktr_room)); (case w₉ku => (first | omega | ktr_units)); k_whole; intro hF tkF FF NF; (try dsimp only); (try k_sweep))))
  (k_with "call ref" => (fail_if_success k_extra "left 78"); ((k_here; k_dflt (refine' con_use0 PBool.el hcc ?w₉k1 ?w₉k2 ?w₉k3 ?w₉k4 ?w₉k5 ?w₉kK ?w₉kI ?w₉kd ?w₉ku ?_); (case w₉k4 => k_asm); (case w₉kI => exact fun _ hp => hp); (case w₉k1 => k_asm); (case w₉k2 => k_asm); (case w₉k3 => k_asm); (case w₉k5 => k_asm); (case w₉kK => first | exact rfl | assumption); (case w₉kd => (first | omega | ktr_room)); (case w₉ku => (first | omega | ktr_units)); k_whole; intro hF tkF FF NF; (try dsimp only); (try k_sweep))))
  (conv at hB => rhs; whnf)
  (conv at hS => rhs; whnf)
  subst hB hS
  (try dsimp only [List.drop, List.take])
  (first | (refine letAE ?_; intro A9 E9) | skip)
  repeat' (first | (k_unfold; (try dsimp only)) | (with_reducible refine hideQ ?_; intro Q9 hQ9) | (with_reducible refine hideQ2 ?_; intro Q9 hQ9) | (with_reducible refine hQ9 _ _ ?_; try clear hQ9 Q9) | walk1 | (dsimp only; walk1) | (dsimp only; k_unfold; (try dsimp only)) | fail "no step")
  rename News _ _ _ _ => N5
  rename Fr _ _ _ _ => F5
  exact k _ _ F5 N5
end

end
section
section
theorem seg15 {w : World} {loose : List Str} {mean : ExcName → Option Value} {mg mb : Str → Option Value} {dp un : Nat} {gd : Option (List Code)} {outer : List Env} {A₀ : Around} {base g h₁ : Heap} {L colA sF stl cd : Addr} {s₀ : Shared} {tk : Nat} {Q : Flow → Shared → Prop} {E : Value → Shared → Prop} {B : List Stmt} {sc : Scope} {m : Str → Option Value} {W : Led}
    {co : Nat → Addr} {C : Int → Int → Int} {τ σ0 : St}
    (hB : B = fB (stAt 28)) (hS : sc = fS (stAt 28)) (Bl : Below A₀ base outer g) (F : Fr g L h₁ m) (X : (K9 w.params).In g) (T : Top topProg loose mean mg mb g) (hd : dp + 8 < recursionLimit) (hu : un + 12 * 8 + 9 < cLine)
    (N : News g L h₁ W) (mO : m (Str.ofString "columns") = some (.ref colA)) (mF : m (Str.ofString "falling") = some (.ref sF)) (mS : m (Str.ofString "start") = some (.ref stl)) (mC : m (Str.ofString "clean") = some (.ref cd))
    (mcol1 : (colA, listOf (List.toArray [.ref (co 0), .ref (co 1), .ref (co 2), .ref (co 3)]) 4) ∈ W) (hC1 : ColAt W [.ref (co 0), .ref (co 1), .ref (co 2), .ref (co 3)] C) (hSf : StAt w W W sF τ)
    (hst : ∀ (R' : Led) (s : Addr), (∀ p ∈ W, p ∈ R') → (s, tupObj #[.ref stl, .ref cd]) ∈ R' → StAt w R' R' s σ0)
    (hback : downs.foldl (turn fun a b => cmp1 (C a 3) (C b 3) 1) τ = σ0)
    (k : ∀ h' tk' W', Fr g L h' m → News g L h' W' → (∀ p ∈ W, p ∈ W') → Q (.ret (.bool true)) { s₀ with heap := h', toks := tk' }) :
    wpAny (model PP w) (ktrTop dp un gd (Str.ofString "law") sc L 252 (.ref 251) (cellsFrom (L + 1) sc.names []) outer) (execs ((B.drop 15).take 1) (envX (Str.ofString "law") sc L 252 (.ref 251) (cellsFrom (L + 1) sc.names []))) Q E { s₀ with heap := h₁, toks := tk } := by
  (k_with "left 78" => skip)
  (k_with "left 77" => skip)
  (k_with "my suf3" => (fail_if_success k_extra "left 80"); ((intro _ hp; repeat' first | exact hp | refine List.Mem.tail _ ?_ | refine List.mem_append_right _ ?_)))
  (k_with "my in3" => (fail_if_success k_extra "left 80"); ((repeat' first | assumption | refine List.Mem.tail _ ?_ | refine List.mem_append_right _ ?_)))
  (k_with "my suf4" => (fail_if_success k_extra "left 80"); ((intro _ hp; repeat' first | exact hp | exact List.mem_append_left _ hp | refine List.Mem.tail _ ?_ | refine List.mem_append_right _ ?_)))
  (k_with "my in4" => (fail_if_success k_extra "left 80"); ((repeat' first | assumption | refine List.Mem.tail _ ?_ | refine List.mem_append_right _ ?_)))
  (k_with "call ref" => (fail_if_success k_extra "left 80"); ((k_here; (k_dflt (refine' con_use1 PState.el (laid_down (co := fun a b => cmp1 (C a 3) (C b 3) 1) ?w₉st ?w₉c9 hcs ?w₉cmp ?w₉h10) ?w₉k1 ?w₉k2 ?w₉k3 ?w₉k4 ?w₉k5 ?w₉kK ?w₉kI ?w₉kd ?w₉ku ?_); (case w₉k4 => k_asm); (case w₉kI => exact fun _ hp => hp); (case w₉k1 => k_asm); (case w₉k2 => k_asm); (case w₉k3 => k_asm); (case w₉k5 => k_asm); (case w₉kK => first | exact rfl | assumption); (case w₉kd => (first | omega | ktr_room)); (case w₉ku => (first | omega | ktr_units)); (case w₉st => (refine' (StAt.mono hSf ?w₉sa ?w₉sb); (case w₉sa => walk_at "my suf3"); (case w₉sb => walk_at "my suf3"))); (case w₉c9 => walk_at "my in3"); (case w₉h10 => k_mem); (case w₉cmp => (refine' cmp1_at ?w₉h6 ?w₉h7 ?w₉hi ?w₉hC; (case w₉h6 => k_mem); (case w₉h7 => k_mem); (case w₉hi => decide); (case w₉hC => (refine' hC1.mono ?w₉sa; (case w₉sa => walk_at "my suf3"))))); k_whole; intro sD AD hSD hD tkD FD ND ZD; rw [hback] at hSD); (try dsimp only); (try k_sweep))))
  (k_with "compareOp Eq ref ref" => (fail_if_success k_extra "left 80"); ((k_here; k_dflt (refine' eq_states ?w₉N ?w₉a ?w₉b (SameSt.of_eq rfl) ?w₉u ?_); (case w₉N => k_asm); (case w₉a => (refine' hSD.mono ?w₉sa ?w₉sb; (case w₉sa => walk_at "my suf4"); (case w₉sb => walk_at "my suf4"))); (case w₉b => (refine hst _ _ (fun p hp => ?_) (.head _); walk_at "my in4")); (case w₉u => k_dflt (exact hu3)); k_whole)))
  (conv at hB => rhs; whnf)
  (conv at hS => rhs; whnf)
  subst hB hS
  (try dsimp only [List.drop, List.take])
  (first | (refine letAE ?_; intro A9 E9) | skip)
  have hcs : ∀ n : Int, 0 ≤ n → n < 4 → ∃ e, [Value.ref (co 0), .ref (co 1), .ref (co 2), .ref (co 3)][n.toNat]? = some (.ref e) := fun n h1 h2 => by
    have : n = 0 ∨ n = 1 ∨ n = 2 ∨ n = 3 := by omega
    rcases this with rfl | rfl | rfl | rfl <;> exact ⟨_, rfl⟩
  have hu3 : un + 3 < cLine := by omega
  repeat' (first | (k_unfold; (try dsimp only)) | (with_reducible refine hideQ ?_; intro Q9 hQ9) | (with_reducible refine hideQ2 ?_; intro Q9 hQ9) | (with_reducible refine hQ9 _ _ ?_; try clear hQ9 Q9) | walk1 | (dsimp only; walk1) | (dsimp only; k_unfold; (try dsimp only)) | fail "no step")
  rename News _ _ _ _ => N5
  rename Fr _ _ _ _ => F5
  exact k _ _ _ F5 N5 fun p hp => .tail _ (List.mem_append_right _ (.tail _ (.tail _ (.tail _ hp))))
end

end
section
noncomputable def leadOf (d : Int) : Nat × Nat × Nat := ((d.fmod 3).toNat, (1 + (d.fdiv 3).fmod 3).toNat, ((d.fdiv 9).fmod 3).toNat)
theorem fmod3 (d : Int) : 0 ≤ d.fmod 3 ∧ d.fmod 3 < 3 := ⟨Int.fmod_nonneg_of_pos _ (by decide), Int.fmod_lt_of_pos _ (by decide)⟩
theorem leads_of {a t c : Nat} (ha : a < 3) (h1 : 1 ≤ t) (h2 : t ≤ 3) (hc : c < 3) : (a, t, c) ∈ leads := by
  have e1 : a = 0 ∨ a = 1 ∨ a = 2 := by omega
  have e2 : t = 1 ∨ t = 2 ∨ t = 3 := by omega
  have e3 : c = 0 ∨ c = 1 ∨ c = 2 := by omega
  rcases e1 with rfl | rfl | rfl <;> rcases e2 with rfl | rfl | rfl <;> rcases e3 with rfl | rfl | rfl <;> decide +kernel
theorem leadOf_in (d : Int) : leadOf d ∈ leads := by
  have h1 := fmod3 d
  have h2 := fmod3 (d.fdiv 3)
  have h3 := fmod3 (d.fdiv 9)
  exact leads_of (by omega) (by omega) (by omega) (by omega)
theorem leads_lt {p : Nat × Nat × Nat} (h : p ∈ leads) : p.1 < 3 ∧ (1 ≤ p.2.1 ∧ p.2.1 ≤ 3) ∧ p.2.2 < 3 ∧ (wsCs p.1 p.2.1).length ≤ 10 :=
  of_decide_eq_true (List.all_eq_true.mp (by decide +kernel : (leads.all fun p => decide (p.1 < 3 ∧ (1 ≤ p.2.1 ∧ p.2.1 ≤ 3) ∧ p.2.2 < 3 ∧ (wsCs p.1 p.2.1).length ≤ 10)) = true) p h)
noncomputable def pAt (ds : List Int) (i : Nat) : Nat × Nat × Nat := leadOf (ds.getD (8 + i) 0)
theorem pAt_in (ds : List Int) (i : Nat) : pAt ds i ∈ leads := leadOf_in _
noncomputable def xAt (ds : List Int) (i : Nat) : Str := leadS ((ds.getD (8 + i) 0).fmod 3) (1 + ((ds.getD (8 + i) 0).fdiv 3).fmod 3) (((ds.getD (8 + i) 0).fdiv 9).fmod 3)
noncomputable def lAt (ds : List Int) (i : Nat) : List Str := leadL (pAt ds i).1 (pAt ds i).2.1 (pAt ds i).2.2
theorem xAt_signs (ds : List Int) (i : Nat) : (xAt ds i).cps.toList.map (fun c => (⟨#[c]⟩ : Str)) = lAt ds i := lead_signs _ _ _
noncomputable def cAt (ds : List Int) (i : Nat) (z : Int) : Int := colOf z (pAt ds i).1 (pAt ds i).2.1 (pAt ds i).2.2
theorem cAt_con {w : World} (ds : List Int) (i : Nat) (size : Int) (t ts : Tok) (hs : 0 < size) : Con w 1 185 [.str (xAt ds i) t, .int size ts] [] [] (PInt (cAt ds i size)) :=
  column_con (xAt_signs ds i) (lead_kinds _ _ _) hs
theorem indV_is {p : Nat × Nat × Nat} (h : p ∈ leads) {z : Int} (hz : z = 1 ∨ z = 2 ∨ z = 3) : indV (wsCs p.1 p.2.1) p.2.2 p.2.1 z = colOf z p.1 p.2.1 p.2.2 := by
  obtain ⟨h1, h2, h3, _⟩ := leads_lt h
  exact col_indent h1 h2 h3 hz
theorem less_is {p q : Nat × Nat × Nat} (hp : p ∈ leads) (hq : q ∈ leads) : lessL p q = (decide (colOf 1 p.1 p.2.1 p.2.2 < colOf 1 q.1 q.2.1 q.2.2) && (decide (colOf 2 p.1 p.2.1 p.2.2 < colOf 2 q.1 q.2.1 q.2.2) && decide (colOf 3 p.1 p.2.1 p.2.2 < colOf 3 q.1 q.2.1 q.2.2))) := by
  obtain ⟨h1, h2, h3, _⟩ := leads_lt hp
  obtain ⟨k1, k2, k3, _⟩ := leads_lt hq
  rw [lessL_is hp hq, col_indent h1 h2 h3 (.inl rfl), col_indent h1 h2 h3 (.inr (.inl rfl)), col_indent h1 h2 h3 (.inr (.inr rfl)), col_indent k1 k2 k3 (.inl rfl), col_indent k1 k2 k3 (.inr (.inl rfl)), col_indent k1 k2 k3 (.inr (.inr rfl))]
noncomputable def CAt (ds : List Int) (n i : Int) : Int := if i = 3 then n else cAt ds n.toNat (i + 1)
theorem CAt_col (ds : List Int) {R : Led} {co : Nat → Addr} (h : ∀ i, i < 4 → ∃ z0 z1 z2 z3, (co i, tupObj #[.int (cAt ds i 1) z0, .int (cAt ds i 2) z1, .int (cAt ds i 3) z2, .int (i : Int) z3]) ∈ R) : ColAt R [.ref (co 0), .ref (co 1), .ref (co 2), .ref (co 3)] (CAt ds) := by
  have one : ∀ k : Nat, k < 4 → ∃ e As, [Value.ref (co 0), .ref (co 1), .ref (co 2), .ref (co 3)][k]? = some (.ref e) ∧ (e, tupObj (List.toArray As)) ∈ R ∧ ∀ i : Int, 0 ≤ i → i < 4 → ∃ t, As[i.toNat]? = some (.int (CAt ds (k : Int) i) t) := fun k hk => by
    obtain ⟨z0, z1, z2, z3, hm⟩ := h k hk
    refine ⟨co k, [.int (cAt ds k 1) z0, .int (cAt ds k 2) z1, .int (cAt ds k 3) z2, .int (k : Int) z3], ?_, hm, fun i h0 h4 => ?_⟩
    · have : k = 0 ∨ k = 1 ∨ k = 2 ∨ k = 3 := by omega
      rcases this with rfl | rfl | rfl | rfl <;> rfl
    · have : i = 0 ∨ i = 1 ∨ i = 2 ∨ i = 3 := by omega
      rcases this with rfl | rfl | rfl | rfl <;> exact ⟨_, rfl⟩
  intro n h0 h4
  obtain ⟨k, rfl⟩ : ∃ k : Nat, n = (k : Int) := ⟨n.toNat, by omega⟩
  exact one k (by omega)
theorem CAt_key (ds : List Int) : ∀ n ∈ [(0 : Int), 1, 2, 3], CAt ds n 3 = n := fun _ _ => rfl
theorem CAt_c (ds : List Int) : ∀ i : Int, i = 0 ∨ i = 1 ∨ i = 2 → ∀ j : Nat, j < 4 → CAt ds (j : Int) i = cAt ds j (i + 1) := fun i hi j _ => by
  rcases hi with rfl | rfl | rfl <;> rfl
noncomputable def thAt (ds : List Int) (i : Nat) : Th := ⟨(i : Int), ds.getD i 0, ds.getD (4 + i) 0⟩
noncomputable def sAt (ds : List Int) : St := ⟨[thAt ds 0, thAt ds 1, thAt ds 2, thAt ds 3], fun _ => bk0⟩
theorem sAt_inv (ds : List Int) : Inv [thAt ds 0, thAt ds 1, thAt ds 2, thAt ds 3] (sAt ds) ∧ nms (sAt ds) = [0, 1, 2, 3] := inv_start rfl rfl rfl rfl fun _ _ => ⟨rfl, rfl, rfl, rfl, fun _ _ => rfl⟩
theorem sAt_rep {w : World} {ds : List Int} {R : Led} {so bo : Nat → Addr} (h : ∀ i, i < 4 → ThAt R (so i) (thAt ds i)) (hb : ∀ i, i < 4 → BkAt w R (bo i) bk0) :
    Rep w R [.ref (so 0), .ref (so 1), .ref (so 2), .ref (so 3)] [(0, .ref (bo 0)), (1, .ref (bo 1)), (2, .ref (bo 2)), (3, .ref (bo 3))] (sAt ds) where
  lv := rfl
  lr := rfl
  row := fun i t e => by
    rcases i with _ | _ | _ | _ | i
    · obtain rfl := Option.some.inj e; exact ⟨_, rfl, h 0 (by decide)⟩
    · obtain rfl := Option.some.inj e; exact ⟨_, rfl, h 1 (by decide)⟩
    · obtain rfl := Option.some.inj e; exact ⟨_, rfl, h 2 (by decide)⟩
    · obtain rfl := Option.some.inj e; exact ⟨_, rfl, h 3 (by decide)⟩
    · exact absurd e (by simp [sAt])
  keys := rfl
  bk := fun n h0 h4 => by
    have : n = 0 ∨ n = 1 ∨ n = 2 ∨ n = 3 := by omega
    rcases this with rfl | rfl | rfl | rfl
    · exact ⟨_, rfl, hb 0 (by decide)⟩
    · exact ⟨_, rfl, hb 1 (by decide)⟩
    · exact ⟨_, rfl, hb 2 (by decide)⟩
    · exact ⟨_, rfl, hb 3 (by decide)⟩
  nms := fun i t e => by
    rcases i with _ | _ | _ | _ | i
    · obtain rfl := Option.some.inj e; exact ⟨by show (0 : Int) ≤ 0; decide, by show (0 : Int) < 4; decide⟩
    · obtain rfl := Option.some.inj e; exact ⟨by show (0 : Int) ≤ 1; decide, by show (1 : Int) < 4; decide⟩
    · obtain rfl := Option.some.inj e; exact ⟨by show (0 : Int) ≤ 2; decide, by show (2 : Int) < 4; decide⟩
    · obtain rfl := Option.some.inj e; exact ⟨by show (0 : Int) ≤ 3; decide, by show (3 : Int) < 4; decide⟩
    · exact absurd e (by simp [sAt])
  dis := fun i j ti tj ei ej hij => by
    have nm : ∀ (k : Nat) (t : Th), (sAt ds).row[k]? = some t → t.nm = (k : Int) := fun k t e => by
      rcases k with _ | _ | _ | _ | k
      · obtain rfl := Option.some.inj e; rfl
      · obtain rfl := Option.some.inj e; rfl
      · obtain rfl := Option.some.inj e; rfl
      · obtain rfl := Option.some.inj e; rfl
      · exact absurd e (by simp [sAt])
    rw [nm i ti ei, nm j tj ej]
    omega
theorem sAt_st {w : World} {ds : List Int} {R : Led} {so bo : Nat → Addr} {stl cd : Addr} {ob : Obj} (h : ∀ i, i < 4 → ThAt R (so i) (thAt ds i)) (hb : ∀ i, i < 4 → BkAt w R (bo i) bk0)
    (hs : (stl, LCg.lst [.ref (so 0), .ref (so 1), .ref (so 2), .ref (so 3)]) ∈ R) (hc : (cd, ob) ∈ R) (hd : ob.IsDictOf (intKind PP w) [(0, .ref (bo 0)), (1, .ref (bo 1)), (2, .ref (bo 2)), (3, .ref (bo 3))]) (hm : (cd == sysModules) = false) :
    ∀ (R' : Led) (s : Addr), (∀ p ∈ R, p ∈ R') → (s, tupObj #[.ref stl, .ref cd]) ∈ R' → StAt w R' R' s (sAt ds) := fun R' s k hp =>
  ⟨stl, cd, [.ref (so 0), .ref (so 1), .ref (so 2), .ref (so 3)], 4, _, ob, hp, k _ hs, k _ hc, hd, hm, sAt_rep (fun i hi => (h i hi).mono k) fun i hi => (hb i hi).mono k⟩
theorem tolls_five {a b c d : Th} {z : Int} : (tolls z [a, b, c, d]).length = 5 := by
  have h1 := tollStep_len z [0] a (by decide)
  have h2 := tollStep_len z _ b (by rw [h1]; decide)
  have h3 := tollStep_len z _ c (by rw [h2, h1]; decide)
  have h4 := tollStep_len z _ d (by rw [h3, h2, h1]; decide)
  exact h4.trans (by rw [h3, h2, h1]; rfl)
theorem perms_rev : ∀ {l : List Int}, l ∈ perms → KBa.In (l ++ l.reverse) ∧ KBa.In (l.reverse ++ l) ∧ bsw (l ++ l.reverse) 8 = l.reverse ++ l := by
  have all : (perms.all fun l => (l ++ l.reverse).all (fun n => decide (0 ≤ n ∧ n < 256)) && ((l.reverse ++ l).all (fun n => decide (0 ≤ n ∧ n < 256)) && decide (bsw (l ++ l.reverse) 8 = l.reverse ++ l))) = true := by decide +kernel
  intro l hl
  have h := List.all_eq_true.mp all l hl
  obtain ⟨h1, h2⟩ := Bool.and_eq_true_iff.mp h
  obtain ⟨h2, h3⟩ := Bool.and_eq_true_iff.mp h2
  exact ⟨fun n hn => of_decide_eq_true (List.all_eq_true.mp h1 n hn), fun n hn => of_decide_eq_true (List.all_eq_true.mp h2 n hn), of_decide_eq_true h3⟩

end
section
theorem execsK_appK {M : Model} {A : Around} {E : Value → Shared → Prop} {s : Shared} {env : Env} {Q : Flow → Shared → Prop} {pre rest : List Stmt} (h : wpK M A (execs pre env) (fun f s' => match f with | .next => wpK M A (execs rest env) Q E s' | f => Q f s') E s) : wpK M A (execs (pre ++ rest) env) Q E s := fun Γ p hΓ k => by
  have main : ∀ (pre : List Stmt) (p : Pos) (s : Shared), Sem.wp M Γ (execs pre env) (fun f _ s' => match f with | .next => wpK M A (execs rest env) Q E s' | f => Q f s') (fun e _ s' => E e s') p s → Sem.wp M Γ (execs (pre ++ rest) env) (fun f _ s' => Q f s') (fun e _ s' => E e s') p s := by
    intro pre
    induction pre with
    | nil => intro p s h; exact (show wpK M A (execs rest env) Q E s from h) Γ p hΓ k
    | cons st pre ih =>
      intro p s h
      rw [List.cons_append, execs_cons, Sem.wp_bind']
      rw [execs_cons, Sem.wp_bind'] at h
      refine Sem.wp_mono M Γ _ (fun f p' s' h' => ?_) (fun _ _ _ h' => h') _ _ h
      cases f <;> first | exact ih p' s' h' | exact h'
  exact main pre p s (h Γ p hΓ k)
noncomputable def SegQ (M : Model) (A : Around) (B : List Stmt) (env : Env) (Q : Flow → Shared → Prop) (E : Value → Shared → Prop) (j : Nat) (f : Flow) (s : Shared) : Prop :=
  match f with | .next => wpK M A (execs (B.drop j) env) Q E s | f => Q f s
section
variable {M : Model} {A : Around} {B : List Stmt} {env : Env} {Q : Flow → Shared → Prop} {E : Value → Shared → Prop} {s : Shared}
theorem cut_at {j n j' : Nat} (hj : j + n = j') : B.drop j = (B.drop j).take n ++ B.drop j' := by
  subst hj
  rw [← List.drop_drop, List.take_append_drop]
theorem segGo (j n : Nat) {j' : Nat} (hj : j + n = j') (h : wpAny M A (execs ((B.drop j).take n) env) (SegQ M A B env Q E j') E s) : SegQ M A B env Q E j .next s := by
  show wpK M A (execs (B.drop j) env) Q E s
  rw [cut_at hj]
  refine execsK_app (wpAny_mono h (fun f s' q => ?_) fun _ _ x => x)
  cases f <;> exact q
theorem segGoK (j n : Nat) {j' : Nat} (hj : j + n = j') (h : wpK M A (execs ((B.drop j).take n) env) (SegQ M A B env Q E j') E s) : SegQ M A B env Q E j .next s := by
  show wpK M A (execs (B.drop j) env) Q E s
  rw [cut_at hj]
  refine execsK_appK (h.mono (fun f s' q => ?_) fun _ _ x => x)
  cases f <;> exact q
end
theorem ints_step {P : List Value → List Int → Prop} {vs : List Value} {ds : List Int} {n : Nat} (h : IntsAre vs ds) (hl : ds.length = n + 1) (k : ∀ d t us es, IntsAre us es → es.length = n → P (.int d t :: us) (d :: es)) : P vs ds := by
  cases h with
  | nil => exact absurd hl.symm (Nat.succ_ne_zero _)
  | cons d t h => exact k _ _ _ _ h (Nat.succ.inj hl)
inductive Twelve : List Value → List Int → Prop
  | mk (d0 d1 d2 d3 d4 d5 d6 d7 d8 d9 da db : Int) (t0 t1 t2 t3 t4 t5 t6 t7 t8 t9 ta tb : Tok) : Twelve [.int d0 t0, .int d1 t1, .int d2 t2, .int d3 t3, .int d4 t4, .int d5 t5, .int d6 t6, .int d7 t7, .int d8 t8, .int d9 t9, .int da ta, .int db tb] [d0, d1, d2, d3, d4, d5, d6, d7, d8, d9, da, db]
theorem twelve {vs : List Value} {ds : List Int} (h : IntsAre vs ds) (hl : ds.length = 12) : Twelve vs ds :=
  ints_step h hl fun d0 t0 us es h hl =>
  ints_step (P := fun vs ds => Twelve (.int d0 t0 :: vs) (d0 :: ds)) h hl fun d1 t1 us es h hl =>
  ints_step (P := fun vs ds => Twelve (.int d0 t0 :: .int d1 t1 :: vs) (d0 :: d1 :: ds)) h hl fun d2 t2 us es h hl =>
  ints_step (P := fun vs ds => Twelve (.int d0 t0 :: .int d1 t1 :: .int d2 t2 :: vs) (d0 :: d1 :: d2 :: ds)) h hl fun d3 t3 us es h hl =>
  ints_step (P := fun vs ds => Twelve (.int d0 t0 :: .int d1 t1 :: .int d2 t2 :: .int d3 t3 :: vs) (d0 :: d1 :: d2 :: d3 :: ds)) h hl fun d4 t4 us es h hl =>
  ints_step (P := fun vs ds => Twelve (.int d0 t0 :: .int d1 t1 :: .int d2 t2 :: .int d3 t3 :: .int d4 t4 :: vs) (d0 :: d1 :: d2 :: d3 :: d4 :: ds)) h hl fun d5 t5 us es h hl =>
  ints_step (P := fun vs ds => Twelve (.int d0 t0 :: .int d1 t1 :: .int d2 t2 :: .int d3 t3 :: .int d4 t4 :: .int d5 t5 :: vs) (d0 :: d1 :: d2 :: d3 :: d4 :: d5 :: ds)) h hl fun d6 t6 us es h hl =>
  ints_step (P := fun vs ds => Twelve (.int d0 t0 :: .int d1 t1 :: .int d2 t2 :: .int d3 t3 :: .int d4 t4 :: .int d5 t5 :: .int d6 t6 :: vs) (d0 :: d1 :: d2 :: d3 :: d4 :: d5 :: d6 :: ds)) h hl fun d7 t7 us es h hl =>
  ints_step (P := fun vs ds => Twelve (.int d0 t0 :: .int d1 t1 :: .int d2 t2 :: .int d3 t3 :: .int d4 t4 :: .int d5 t5 :: .int d6 t6 :: .int d7 t7 :: vs) (d0 :: d1 :: d2 :: d3 :: d4 :: d5 :: d6 :: d7 :: ds)) h hl fun d8 t8 us es h hl =>
  ints_step (P := fun vs ds => Twelve (.int d0 t0 :: .int d1 t1 :: .int d2 t2 :: .int d3 t3 :: .int d4 t4 :: .int d5 t5 :: .int d6 t6 :: .int d7 t7 :: .int d8 t8 :: vs) (d0 :: d1 :: d2 :: d3 :: d4 :: d5 :: d6 :: d7 :: d8 :: ds)) h hl fun d9 t9 us es h hl =>
  ints_step (P := fun vs ds => Twelve (.int d0 t0 :: .int d1 t1 :: .int d2 t2 :: .int d3 t3 :: .int d4 t4 :: .int d5 t5 :: .int d6 t6 :: .int d7 t7 :: .int d8 t8 :: .int d9 t9 :: vs) (d0 :: d1 :: d2 :: d3 :: d4 :: d5 :: d6 :: d7 :: d8 :: d9 :: ds)) h hl fun da ta us es h hl =>
  ints_step (P := fun vs ds => Twelve (.int d0 t0 :: .int d1 t1 :: .int d2 t2 :: .int d3 t3 :: .int d4 t4 :: .int d5 t5 :: .int d6 t6 :: .int d7 t7 :: .int d8 t8 :: .int d9 t9 :: .int da ta :: vs) (d0 :: d1 :: d2 :: d3 :: d4 :: d5 :: d6 :: d7 :: d8 :: d9 :: da :: ds)) h hl fun db tb us es h hl =>
  by
    cases h with
    | nil => exact .mk _ _ _ _ _ _ _ _ _ _ _ _ _ _ _ _ _ _ _ _ _ _ _ _
    | cons => exact absurd hl (Nat.succ_ne_zero _)
theorem seg1' {w : World} {loose : List Str} {mean : ExcName → Option Value} {mg mb : Str → Option Value} {dp un : Nat} {gd : Option (List Code)} {outer : List Env} {A₀ : Around} {base g h₁ : Heap} {L dl : Addr} {s₀ : Shared} {tk : Nat} {Q : Flow → Shared → Prop} {E : Value → Shared → Prop} {B : List Stmt} {sc : Scope} {m : Str → Option Value} {n : Nat} {oN oL oD : Obj} {vs : List Value} {ds : List Int}
    (hB : B = fB (stAt 28)) (hS : sc = fS (stAt 28)) (Bl : Below A₀ base outer g) (F : Fr g L h₁ m) (X : (K9 w.params).In g) (T : Top topProg loose mean mg mb g) (hd : dp + 8 < recursionLimit) (hu : un + 12 * 8 + 9 < cLine) (hi : IntsAre vs ds) (hl : ds.length = 12)
    (l1 : @LT.lt Nat _ 242 L) (N : News g L h₁ [(dl, listOf (List.toArray vs) n), (L + 1 + 1 + 1, oN), (L + 1 + 1, oL), (L + 1, oD), ((242 : Addr), tabObj #[])]) (dN : oN.data = .cell none) (dL : oL.data = .cell none) (dD : oD.data = .cell (some (.ref dl)))
    (l2 : AptL dl [(L + 1 + 1 + 1, oN), (L + 1 + 1, oL), (L + 1, oD), ((242 : Addr), tabObj #[])])
    (k : ∀ h' tk' ll oL' (us : Nat → Tok) (R : Led), Fr g L h' m → oL'.data = .cell (some (.ref ll)) → News g L h' ((L + 1 + 1 + 1, oN) :: ((242 : Addr), tabObj #[]) :: R) → (∀ q ∈ R, @Ne Nat q.1 (L + 1 + 1 + 1)) → (∀ q ∈ R, @Ne Nat q.1 242) →
      (ll, LCg.lst [.str (xAt ds 0) (us 0), .str (xAt ds 1) (us 1), .str (xAt ds 2) (us 2), .str (xAt ds 3) (us 3)]) ∈ R → (dl, listOf (List.toArray vs) n) ∈ R → (L + 1 + 1, oL') ∈ R → (L + 1, oD) ∈ R → Q .next { s₀ with heap := h', toks := tk' }) :
    wpAny (model PP w) (ktrTop dp un gd (Str.ofString "law") sc L 252 (.ref 251) (cellsFrom (L + 1) sc.names []) outer) (execs ((B.drop 1).take 1) (envX (Str.ofString "law") sc L 252 (.ref 251) (cellsFrom (L + 1) sc.names []))) Q E { s₀ with heap := h₁, toks := tk } := by
  cases twelve hi hl
  exact seg1 hB hS Bl F X T hd hu l1 N dN dL dD l2 fun h' tk' ll oL' u0 u1 u2 u3 R F' dL' N' r3 r2 mll mdl mL mD =>
    k h' tk' ll oL' (fun i => match i with | 0 => u0 | 1 => u1 | 2 => u2 | _ => u3) R F' dL' N' r3 r2 mll mdl mL mD
theorem upd_at {m : Str → Option Value} {x : Str} {v : Option Value} : (fun y => if y = x then v else m y) x = v := if_pos rfl
theorem upd_off {m : Str → Option Value} {x z : Str} {u v : Option Value} (h : z ≠ x) (e : m z = u) : (fun y => if y = x then v else m y) z = u := (if_neg h).trans e

end
section
theorem law_body {w : World} {loose : List Str} {mean : ExcName → Option Value} {mg mb : Str → Option Value} {dp un : Nat} {gd : Option (List Code)} {outer : List Env} {A₀ : Around} {base g h₁ : Heap} {L sl : Addr} {s₀ : Shared} {tk : Nat} {Q : Flow → Shared → Prop} {B : List Stmt} {sc : Scope} {m : Str → Option Value} {vs : List Value} {ns : List Int} {oN oL oD : Obj}
    (hB : B = fB (stAt 28)) (hS : sc = fS (stAt 28)) (Bl : Below A₀ base outer g) (F : Fr g L h₁ m) (X : (K9 w.params).In g) (T : Top topProg loose mean mg mb g) (hd : dp + 8 < recursionLimit) (hu : un + 12 * 8 + 9 < cLine)
    (HL : g.IsList sl vs.toArray) (hi : IntsAre vs ns) (hl : ns.length ≤ 63) (hm : m (Str.ofString "script") = some (.ref sl)) (l1 : @LT.lt Nat _ 242 L)
    (N : News g L h₁ [(L + 1 + 1 + 1, oN), (L + 1 + 1, oL), (L + 1, oD), ((242 : Addr), tabObj #[])]) (dN : oN.data = .cell none) (dL : oL.data = .cell none) (dD : oD.data = .cell none)
    (k : ∀ h' tk' m' (T' : Led), Fr g L h' m' → OrdTab T' → News g L h' T' → Q (.ret (.bool true)) { s₀ with heap := h', toks := tk' }) :
    wpK (model PP w) (ktrTop dp un gd (Str.ofString "law") sc L 252 (.ref 251) (cellsFrom (L + 1) sc.names []) outer) (execs B (envX (Str.ofString "law") sc L 252 (.ref 251) (cellsFrom (L + 1) sc.names []))) Q (fun _ _ => False) { s₀ with heap := h₁, toks := tk } := by
  suffices h : SegQ (model PP w) (ktrTop dp un gd (Str.ofString "law") sc L 252 (.ref 251) (cellsFrom (L + 1) sc.names []) outer) B (envX (Str.ofString "law") sc L 252 (.ref 251) (cellsFrom (L + 1) sc.names [])) Q (fun _ _ => False) 0 .next { s₀ with heap := h₁, toks := tk } from h
  refine segGo 0 1 (j' := 1) rfl (seg0 hB hS Bl F X T hd hu HL hi hl hm l1 N dN dL dD ?_)
  clear F N
  intro h₂ t₂ dl v₂ n₂ ds oD₂ F hi₂ hl₂ dD₂ ap N
  replace ap : AptL dl [(L + 1 + 1 + 1, oN), (L + 1 + 1, oL), (L + 1, oD₂), ((242 : Addr), tabObj #[])] := ⟨fun q hq => by
    simp only [List.mem_cons, List.not_mem_nil, or_false] at hq
    rcases hq with rfl | rfl | rfl | rfl
    · exact ap.get _ (.head _)
    · exact ap.get _ (.tail _ (.head _))
    · exact ap.get (L + 1, oD) (.tail _ (.tail _ (.head _)))
    · exact ap.get _ (.tail _ (.tail _ (.tail _ (.head _))))⟩
  refine segGo 1 1 (j' := 2) rfl (seg1' hB hS Bl F X T hd hu hi₂ hl₂ l1 N dN dL dD₂ ap ?_)
  clear F N ap
  intro h₃ t₃ ll oL us R F dL₂ N r3 r2 mll mdl mL mD
  refine segGo 2 1 (j' := 3) rfl (seg2 hB hS Bl F X T hd hu N dL₂ mL mll (fun i z t ts => cAt_con ds i z t ts) r3 r2 ?_)
  clear F N r3 r2
  intro h₄ t₄ R₄ wl wo F N up r3 r2 mwl hwo
  replace mll := up _ mll
  replace mdl := up _ mdl
  replace mL := up _ mL
  replace mD := up _ mD
  clear up
  refine segGo 3 1 (j' := 4) rfl (seg3 (xs := xAt ds) (us := us) (cs := fun i => wsCs (pAt ds i).1 (pAt ds i).2.1) (b := fun i => ((pAt ds i).2.2 : Int)) (n := fun i => (((pAt ds i).1 + (pAt ds i).2.1 + (pAt ds i).2.2 : Nat) : Int)) (nt := fun i => ((pAt ds i).2.1 : Int)) (ls := lAt ds)
    hB hS Bl F X T hd hu l1 N dN dL₂ mL mll (fun i _ => xAt_signs ds i) (fun i _ => okW_lead (pAt_in ds i)) (fun i _ => (leads_lt (pAt_in ds i)).2.2.2) r3 r2 ?_)
  have mW : (fun y => if y = Str.ofString "walked" then some (Value.ref wl) else m y) (Str.ofString "walked") = some (.ref wl) := upd_at
  generalize (fun y => if y = Str.ofString "walked" then some (Value.ref wl) else m y) = m₄ at F mW ⊢
  clear F N r3 r2
  intro h₅ t₅ R₅ nl oN₅ no F N up r2 dN₅ mN mnl hws
  replace mdl := up _ mdl
  replace mD := up _ mD
  replace mwl := up _ mwl
  have hwo := fun i hi => let ⟨z0, z1, z2, z3, q⟩ := hwo i hi; (⟨z0, z1, z2, z3, up _ q⟩ : ∃ z0 z1 z2 z3, (wo i, tupObj #[.int (cAt ds i 1) z0, .int (cAt ds i 2) z1, .int (cAt ds i 3) z2, .int (i : Int) z3]) ∈ R₅)
  clear up mL mll
  refine segGo 4 1 (j' := 5) rfl (seg4 hB hS Bl F X T hd hu N dN₅ mN mnl hws r2 ?_)
  clear F N r2
  intro h₆ t₆ R₆ col co F N up r2 mcol hco
  replace mdl := up _ mdl
  replace mD := up _ mD
  replace mwl := up _ mwl
  replace mN := up _ mN
  replace mnl := up _ mnl
  have hwo := fun i hi => let ⟨z0, z1, z2, z3, q⟩ := hwo i hi; (⟨z0, z1, z2, z3, up _ q⟩ : ∃ z0 z1 z2 z3, (wo i, tupObj #[.int (cAt ds i 1) z0, .int (cAt ds i 2) z1, .int (cAt ds i 3) z2, .int (i : Int) z3]) ∈ R₆)
  have hws := fun i hi => (hws i hi).mono up
  have hco : ∀ i, i < 4 → ∃ z0 z1 z2 z3, (co i, tupObj #[.int (cAt ds i 1) z0, .int (cAt ds i 2) z1, .int (cAt ds i 3) z2, .int (i : Int) z3]) ∈ R₆ := fun i hi => by
    obtain ⟨z0, z1, z2, z3, q⟩ := hco i hi
    rw [indV_is (pAt_in ds i) (.inl rfl), indV_is (pAt_in ds i) (.inr (.inl rfl)), indV_is (pAt_in ds i) (.inr (.inr rfl))] at q
    exact ⟨z0, z1, z2, z3, q⟩
  replace mW := upd_off (x := Str.ofString "columns") (v := some (.ref col)) (by decide +kernel) mW
  have mC : (fun y => if y = Str.ofString "columns" then some (Value.ref col) else m₄ y) (Str.ofString "columns") = some (.ref col) := upd_at
  generalize (fun y => if y = Str.ofString "columns" then some (Value.ref col) else m₄ y) = m₆ at F mW mC ⊢
  clear up
  refine segGo 5 1 (j' := 6) rfl (seg5 (c := cAt ds) hB hS Bl F X T hd hu N dN₅ mN mnl hws (fun i _ => by have := (leads_lt (pAt_in ds i)).2.2.1; show ((pAt ds i).2.2 : Int) ≤ 10; omega) mC mW mcol mwl hco hwo (fun i j _ _ => less_is (pAt_in ds i) (pAt_in ds j)) ?_)
  clear F N hws mN mnl
  intro h₇ t₇ F N
  refine segGo 6 1 (j' := 7) rfl (seg6 hB hS Bl F X T hd hu N dD₂ mD mdl hi₂ hl₂ r2 ?_)
  clear F N r2
  intro h₈ t₈ R₈ stl so F N up r2 mstl hth
  replace mwl := up _ mwl
  replace mcol := up _ mcol
  have hwo := fun i hi => let ⟨z0, z1, z2, z3, q⟩ := hwo i hi; (⟨z0, z1, z2, z3, up _ q⟩ : ∃ z0 z1 z2 z3, (wo i, tupObj #[.int (cAt ds i 1) z0, .int (cAt ds i 2) z1, .int (cAt ds i 3) z2, .int (i : Int) z3]) ∈ R₈)
  have hC := (CAt_col ds hco).mono up
  replace mW := upd_off (x := Str.ofString "start") (v := some (.ref stl)) (by decide +kernel) mW
  replace mC := upd_off (x := Str.ofString "start") (v := some (.ref stl)) (by decide +kernel) mC
  have mS : (fun y => if y = Str.ofString "start" then some (Value.ref stl) else m₆ y) (Str.ofString "start") = some (.ref stl) := upd_at
  generalize (fun y => if y = Str.ofString "start" then some (Value.ref stl) else m₆ y) = m₈ at F mW mC mS ⊢
  clear up hco mdl mD
  refine segGo 7 1 (j' := 8) rfl (seg7 hB hS Bl F X T hd hu N r2 ?_)
  clear F N r2
  intro h₉ t₉ R₉ cd ob bo F N up r2 mcd hob hcd hbk
  replace mwl := up _ mwl
  replace mcol := up _ mcol
  replace mstl := up _ mstl
  have hwo := fun i hi => let ⟨z0, z1, z2, z3, q⟩ := hwo i hi; (⟨z0, z1, z2, z3, up _ q⟩ : ∃ z0 z1 z2 z3, (wo i, tupObj #[.int (cAt ds i 1) z0, .int (cAt ds i 2) z1, .int (cAt ds i 3) z2, .int (i : Int) z3]) ∈ R₉)
  have hC := hC.mono up
  have hth : ∀ i, i < 4 → ThAt R₉ (so i) (thAt ds i) := fun i hi => (hth i hi).mono up
  replace mW := upd_off (x := Str.ofString "clean") (v := some (.ref cd)) (by decide +kernel) mW
  replace mC := upd_off (x := Str.ofString "clean") (v := some (.ref cd)) (by decide +kernel) mC
  replace mS := upd_off (x := Str.ofString "clean") (v := some (.ref cd)) (by decide +kernel) mS
  have mD : (fun y => if y = Str.ofString "clean" then some (Value.ref cd) else m₈ y) (Str.ofString "clean") = some (.ref cd) := upd_at
  generalize (fun y => if y = Str.ofString "clean" then some (Value.ref cd) else m₈ y) = m₉ at F mW mC mS mD ⊢
  have hst := sAt_st hth hbk mstl mcd hob hcd
  clear up mcd hob hcd hbk
  have htl : ∀ side : Int, 0 ≤ side ∧ side < 2 → ∀ ts, Con w 2 211 [.ref stl, .int side ts] [] R₉ (PInts (tolls side [thAt ds 0, thAt ds 1, thAt ds 2, thAt ds 3])) := fun side h ts =>
    tolls_con (rs := [⟨(so 0, thAt ds 0), hth 0 (by decide)⟩, ⟨(so 1, thAt ds 1), hth 1 (by decide)⟩, ⟨(so 2, thAt ds 2), hth 2 (by decide)⟩, ⟨(so 3, thAt ds 3), hth 3 (by decide)⟩]) (n := 4) h mstl rfl
  refine segGo 8 2 (j' := 10) rfl (seg8 (T0 := tolls 0 [thAt ds 0, thAt ds 1, thAt ds 2, thAt ds 3]) (T1 := tolls 1 [thAt ds 0, thAt ds 1, thAt ds 2, thAt ds 3]) hB hS Bl F X T hd hu N r2 mS mD (htl 0 (by decide) _) (htl 1 (by decide) _) ?_)
  clear F N r2
  intro hA tA RA st tl a0 a1 v0 v1 n0 n1 nt F N up r2 mst mtl ma0 ma1 hv0 hv1
  replace mwl := up _ mwl
  replace mcol := up _ mcol
  replace mstl := up _ mstl
  have hwo := fun i hi => let ⟨z0, z1, z2, z3, q⟩ := hwo i hi; (⟨z0, z1, z2, z3, up _ q⟩ : ∃ z0 z1 z2 z3, (wo i, tupObj #[.int (cAt ds i 1) z0, .int (cAt ds i 2) z1, .int (cAt ds i 3) z2, .int (i : Int) z3]) ∈ RA)
  have hC := hC.mono up
  have hth : ∀ i, i < 4 → ThAt RA (so i) (thAt ds i) := fun i hi => (hth i hi).mono up
  have hst := fun R' s (q : ∀ p ∈ RA, p ∈ R') => hst R' s fun p hp => q p (up p hp)
  have off : ∀ {z : Str} {u : Option Value}, z ≠ Str.ofString "state" → z ≠ Str.ofString "tolls" → m₉ z = u → (fun y => if y = Str.ofString "state" then some (Value.ref st) else if y = Str.ofString "tolls" then some (.ref tl) else m₉ y) z = u := fun p q e => (if_neg p).trans ((if_neg q).trans e)
  replace mW := off (by decide +kernel) (by decide +kernel) mW
  replace mC := off (by decide +kernel) (by decide +kernel) mC
  replace mS := off (by decide +kernel) (by decide +kernel) mS
  replace mD := off (by decide +kernel) (by decide +kernel) mD
  clear off
  have mA : (fun y => if y = Str.ofString "state" then some (Value.ref st) else if y = Str.ofString "tolls" then some (.ref tl) else m₉ y) (Str.ofString "state") = some (.ref st) := if_pos rfl
  have mT : (fun y => if y = Str.ofString "state" then some (Value.ref st) else if y = Str.ofString "tolls" then some (.ref tl) else m₉ y) (Str.ofString "tolls") = some (.ref tl) := (if_neg (by decide +kernel)).trans (if_pos rfl)
  generalize (fun y => if y = Str.ofString "state" then some (Value.ref st) else if y = Str.ofString "tolls" then some (.ref tl) else m₉ y) = mA' at F mW mC mS mD mA mT ⊢
  clear up htl
  obtain ⟨hInv, hn0⟩ := sAt_inv ds
  refine segGo 10 1 (j' := 11) rfl (seg10 (c := cAt ds) (C := CAt ds) (σ0 := sAt ds) (th := thAt ds) hB hS Bl F X T hd hu N r2 mS mD mC mW mT mA mcol hC (CAt_key ds) mwl hwo (CAt_c ds) mstl hth mtl ma0 ma1 hv0 hv1 tolls_five tolls_five hInv hn0 (hst _ _ (fun _ q => q) mst) hst ?_)
  clear F N r2 mA mst hwo mwl
  intro hF tF T' R' sU σ mF F N hT' hTR up mA hSt hRe hnm hAg
  replace mcol := up _ mcol
  replace mstl := up _ mstl
  replace mtl := up _ mtl
  replace ma0 := up _ ma0
  replace ma1 := up _ ma1
  have hC := hC.mono up
  have hth : ∀ i, i < 4 → ThAt R' (so i) (thAt ds i) := fun i hi => (hth i hi).mono up
  have hst := fun R₂ s (q : ∀ p ∈ R', p ∈ R₂) => hst R₂ s fun p hp => q p (up p hp)
  replace mC := hAg.get (x := Str.ofString "columns") rfl mC
  replace mS := hAg.get (x := Str.ofString "start") rfl mS
  replace mD := hAg.get (x := Str.ofString "clean") rfl mD
  replace mT := hAg.get (x := Str.ofString "tolls") rfl mT
  clear up hAg
  refine segGo 11 1 (j' := 12) rfl (seg11 (C := CAt ds) hB hS Bl F X T hd hu N hTR mC mA mcol hC hSt ?_)
  clear F N hTR
  intro hG tG R₂ sF F N up hTR hSf
  replace mcol := up _ mcol
  replace mstl := up _ mstl
  replace mtl := up _ mtl
  replace ma0 := up _ ma0
  replace ma1 := up _ ma1
  have hC := hC.mono up
  have hth : ∀ i, i < 4 → ThAt R₂ (so i) (thAt ds i) := fun i hi => (hth i hi).mono up
  have hst := fun R₃ s (q : ∀ p ∈ R₂, p ∈ R₃) => hst R₃ s fun p hp => q p (up p hp)
  have hSt := hSt.mono up up
  replace mC := upd_off (x := Str.ofString "falling") (v := some (.ref sF)) (by decide +kernel) mC
  replace mS := upd_off (x := Str.ofString "falling") (v := some (.ref sF)) (by decide +kernel) mS
  replace mD := upd_off (x := Str.ofString "falling") (v := some (.ref sF)) (by decide +kernel) mD
  replace mT := upd_off (x := Str.ofString "falling") (v := some (.ref sF)) (by decide +kernel) mT
  replace mA := upd_off (x := Str.ofString "falling") (v := some (.ref sF)) (by decide +kernel) mA
  have mF' : (fun y => if y = Str.ofString "falling" then some (Value.ref sF) else mF y) (Str.ofString "falling") = some (.ref sF) := upd_at
  generalize (fun y => if y = Str.ofString "falling" then some (Value.ref sF) else mF y) = mG at F mC mS mD mT mA mF' ⊢
  clear up
  have good := hInv.good
  have hRf := hRe.turns good (fun a b => cmp2 (CAt ds a 2) (CAt ds b 2) (-1) (CAt ds a 3) (CAt ds b 3) (-1)) ups_lt
  have hnf : nms (ups.foldl (turn fun a b => cmp2 (CAt ds a 2) (CAt ds b 2) (-1) (CAt ds a 3) (CAt ds b 3) (-1)) σ) = (nms σ).reverse := (fall_names good hn0 hRe (col := fun n => CAt ds n 2) (key := fun n => CAt ds n 3) (CAt_key ds)).trans (by rw [hnm])
  have hback := back_same good hn0 hRf (key := fun n => CAt ds n 3) (CAt_key ds)
  generalize (ups.foldl (turn fun a b => cmp2 (CAt ds a 2) (CAt ds b 2) (-1) (CAt ds a 3) (CAt ds b 3) (-1)) σ) = τ at hSf hRf hnf hback
  clear hnm
  have four : ∀ {x : St}, Reach (sAt ds) x → x.row.length = 4 := fun r => by obtain ⟨a, b, c, d, e, _⟩ := r.good good; rw [e]; rfl
  obtain ⟨hin1, hin2, hbs⟩ := perms_rev (hRe.in good hn0)
  have top : ∀ p ∈ R₂, p ∈ T' ++ R₂ := fun p hp => List.mem_append_right _ hp
  refine segGoK 12 1 (j' := 13) rfl (seg12 (la := nms σ) (lb := (nms σ).reverse) hB hS Bl F X T hd hu N mA mF' (hSt.mono top top) (hSf.mono top top) (four hRe) (four hRf) rfl hnf hin1 ?_)
  clear F N
  intro hH tH tm F N
  rw [hbs] at F
  replace mC := upd_off (x := Str.ofString "mirror") (v := some (.bytes (byteArr ((nms σ).reverse ++ nms σ)) tm)) (by decide +kernel) mC
  replace mS := upd_off (x := Str.ofString "mirror") (v := some (.bytes (byteArr ((nms σ).reverse ++ nms σ)) tm)) (by decide +kernel) mS
  replace mD := upd_off (x := Str.ofString "mirror") (v := some (.bytes (byteArr ((nms σ).reverse ++ nms σ)) tm)) (by decide +kernel) mD
  replace mT := upd_off (x := Str.ofString "mirror") (v := some (.bytes (byteArr ((nms σ).reverse ++ nms σ)) tm)) (by decide +kernel) mT
  replace mA := upd_off (x := Str.ofString "mirror") (v := some (.bytes (byteArr ((nms σ).reverse ++ nms σ)) tm)) (by decide +kernel) mA
  replace mF' := upd_off (x := Str.ofString "mirror") (v := some (.bytes (byteArr ((nms σ).reverse ++ nms σ)) tm)) (by decide +kernel) mF'
  have mM : (fun y => if y = Str.ofString "mirror" then some (Value.bytes (byteArr ((nms σ).reverse ++ nms σ)) tm) else mG y) (Str.ofString "mirror") = some (.bytes (byteArr ((nms σ).reverse ++ nms σ)) tm) := upd_at
  generalize (fun y => if y = Str.ofString "mirror" then some (Value.bytes (byteArr ((nms σ).reverse ++ nms σ)) tm) else mG y) = mH at F mC mS mD mT mA mF' mM
  refine segGo 13 1 (j' := 14) rfl (seg13 (la := nms σ) (lb := (nms σ).reverse) hB hS Bl F X T hd hu N mA mF' (hSt.mono top top) (hSf.mono top top) mM (four hRe) (four hRf) rfl hnf hin2 ?_)
  clear F N mM
  intro hI tI F N
  have hfit := fits4 (w := w) (hSf.mono top top) (top _ mstl) (fun i hi => (hth i hi).mono top) (top _ mtl) (top _ ma0) (top _ ma1) hv0 hv1 tolls_five tolls_five (inv_fits (hRf.inv hInv))
  have hcr := crossed_con (w := w) (rs := [⟨(so 0, thAt ds 0), (hth 0 (by decide)).mono top⟩, ⟨(so 1, thAt ds 1), (hth 1 (by decide)).mono top⟩, ⟨(so 2, thAt ds 2), (hth 2 (by decide)).mono top⟩, ⟨(so 3, thAt ds 3), (hth 3 (by decide)).mono top⟩]) (n := 4)
    (hSt.mono top top) (hSf.mono top top) (top _ mstl) rfl (top _ mtl) (top _ ma0) (top _ ma1) hv0 hv1 tolls_five tolls_five (cross_reach hInv hn0 hRe hRf hnf) (cross_reach hInv hn0 hRf hRe (by rw [hnf, List.reverse_reverse]))
  refine segGo 14 1 (j' := 15) rfl (seg14 hB hS Bl F X T hd hu N mA mF' mS mT hfit hcr ?_)
  clear F N hfit hcr
  intro hJ tJ F N
  refine segGo 15 1 (j' := 16) rfl (seg15 (C := CAt ds) hB hS Bl F X T hd hu N mC mF' mS mD (top _ mcol) (hC.mono top) (hSf.mono top top) (fun R₃ s q => hst R₃ s fun p hp => q p (top p hp)) hback ?_)
  intro hK tK W' F N up
  exact k _ _ _ T' F hT' fun p hp => N p (up p (List.mem_append_left _ hp))

end
section
theorem cells_law {L : Addr} : cellsFrom (L + 1) (fS (stAt 28)).names [] = [(Str.ofString "nannies", L + 1 + 1 + 1), (Str.ofString "leads", L + 1 + 1), (Str.ofString "draws", L + 1)] := rfl
theorem law_call {w : World} {s : Shared} {sl : Addr} {vs : List Value} {ns : List Int} {p : Program} {loose : List Str} {mean : ExcName → Option Value} {mg mb : Str → Option Value} {Q : Value → Shared → Prop}
    (X : (K9 w.params).In s.heap) (hT : TabsAt [((246 : Addr), (242 : Addr))] s.heap) (T : Top p loose mean mg mb s.heap) (HL : s.heap.IsList sl vs.toArray) (hi : IntsAre vs ns) (hl : ns.length ≤ 63)
    (k : ∀ (L : Addr) (h' : Heap) (tk' : Nat) (m' : Str → Option Value) (T' : Led), Fr (ghostOf s.heap [((246 : Addr), (242 : Addr))]) L h' m' → OrdTab T' → News (ghostOf s.heap [((246 : Addr), (242 : Addr))]) L h' T' → Q (.bool true) { s with heap := h', toks := tk' }) :
    wpK (model PP w) callerA (call (.ref 252) [.ref sl]) Q (fun _ _ => False) s := by
  refine' wpK_cells (name := Str.ofString "law") (qual := Str.ofString "law") (params := fP (stAt 28)) (body := fB (stAt 28)) (scope := fS (stAt 28)) (binds := [(Str.ofString "script", .ref sl)]) ?ho ?hfd ?hcd ?hb ?hl ?c1 ?c2 ?c3 ?c4 ?hr X T.nolimit ?_
  (case ho => k_dflt k_is)
  (case hfd => exact rfl)
  (case hcd => k_dflt k_is)
  (case hb => exact rfl)
  (case hl => exact rfl)
  (case c1 => exact rfl)
  (case c2 => exact rfl)
  (case c3 => exact rfl)
  (case c4 => decide +kernel)
  (case hr => decide +kernel)
  intro h₁ tk cells keep hns NC Y
  have F := ghost_fr hT ⟨hns, keep, Nat.le_refl _⟩
  have N := ghost_news hT ⟨hns, keep, Nat.le_refl _⟩ NC
  rw [cells_law] at Y
  obtain ⟨oN, oL, oD, rfl, dN, dL, dD⟩ := CellsAre.three Y
  refine law_body (dp := callerA.depth + 1) (un := callerA.units + 3) (s₀ := s) rfl rfl (ghost_below hT) F (ghost_K hT X (by kernel_rfl)) (ghost_top hT T) (by decide +kernel) (by decide +kernel) (ghost_list hT HL) hi hl rfl (Heap.lt_size (hT _ (.head _)).2) N (dN.trans rfl) (dL.trans rfl) (dD.trans rfl) ?_
  exact fun h' tk' m' T' F' hT' N' => k _ _ _ _ _ F' hT' N'
theorem ordTab_at {g h : Heap} {L : Addr} {T' : Led} (hT : OrdTab T') (N : News g L h T') : ∃ ps, h.get? 242 = some (tabObj ps) := by
  rcases hT with rfl | ⟨c, oc, fv, tq, rfl, _⟩
  · exact ⟨_, (N _ (.head _)).1⟩
  · exact ⟨_, (N _ (.head _)).1⟩

end
section
theorem old_tab {h h' : Heap} {L : Addr} {m : Str → Option Value} {ps : Array Value} (hT : TabsAt [((246 : Addr), (242 : Addr))] h) (F : Fr (ghostOf h [((246 : Addr), (242 : Addr))]) L h' m) (hP : h'.get? 242 = some (tabObj ps)) : OldK h h' := by
  have h2 := (hT _ (.head _)).2
  have ht := ((hT _ (.head _)).1.tab h2).isCodeTable
  have ne : ∀ b o, b ≠ 242 → h.get? b = some o → h'.get? b = some o := fun b o hb e => F.keep b o (ghost_ne e fun q => hb (List.mem_singleton.mp q))
  refine ⟨fun b o e => ?_, fun b o e => ?_⟩
  · by_cases hb : b = 242
    · subst hb
      obtain rfl : o = tabObj #[] := Option.some.inj (e.symm.trans h2)
      exact .inr (.inl ⟨ht, rfl, #[], ps, rfl, by rw [Array.empty_append]; exact hP⟩)
    · exact .inl (ne b o hb e)
  · by_cases hb : b = 242
    · subst hb
      exact ⟨_, hP⟩
    · exact ⟨o, ne b o hb e⟩
theorem law_top : PySem.Challenge.rw_xp0027_01.Holds := by
  refine hd_top fun d kwd hdef => ?_
  intro w s₀ s₁ mg mb G Y a o pm cd doc dV kV ho hd hcd hD hmg hg args vals as hpre hlay hrd hwl hlo
  have KX := km_in_of Y
  have hT8 := km_tabs_of Y
  have T := G.T
  have hT9 : TabsAt [((246 : Addr), (242 : Addr))] s₁.heap := all_cons (⟨codeHd_of_K KX (by kernel_rfl), hT8 242 (.head _)⟩) (fun _ h => nomatch h)
  have ha : mg (Str.ofString "law") = some (.ref 252) := mg_of KX T.g (by kernel_rfl)
  have hn := defOf_name hdef
  rw [hn, ha] at hmg
  obtain rfl : (252 : Addr) = a := Value.ref.inj (Option.some.inj hmg)
  clear ho hd hcd hD hmg Y G hT8 hn hdef
  wrow_args hpre hlay hrd hwl hlo
  rename Heap.IsList _ _ _ => hL
  rename IntsAre _ _ => hI
  refine law_call KX hT9 T hL hI (by omega) fun L h' tk' m' T' F hT' N => ?_
  obtain ⟨ps, hP⟩ := ordTab_at hT' N
  exact ⟨⟨.inl ⟨_, .bool true, [], rfl, fun _ => rfl, .bool true, by wrow_post, fun _ => ⟨.nil, fun _ h => nomatch h⟩⟩, old_tab hT9 F hP, rfl, .of_eq hg⟩, hg⟩

end
end
end Mine
theorem PySem.Challenge.cw_xp0027_01_holds : PySem.Challenge.rw_xp0027_01.Holds :=
  Mine.law_top
