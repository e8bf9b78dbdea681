import PyProof.Rows.All
import Wide.All
import OpenK.AllK
import Wide.FinOn
import PyProof.StrReplace2
import Lean
import PySem.Challenge.RW_wn0035_01
set_option Elab.async false

-- part Pl
section
/-! the plain law: what the client's reader and the lexer make of a text, and what is due -/
namespace Mine
/-- parse257 behind its opening mark -/
noncomputable def P : List Nat → List Nat
  | [] => []
  | 34 :: 34 :: r => 34 :: P r
  | 34 :: _ => []
  | c :: r => c :: P r
/-- get_token behind its opening mark -/
noncomputable def Lx : List Nat → List Nat
  | [] => []
  | 34 :: _ => []
  | [92] => []
  | 92 :: c :: r => c :: Lx r
  | c :: r => c :: Lx r
noncomputable def LxE : List Nat → List Nat
  | [] => []
  | c :: r => c :: Lx r
/-- a backslash is pending at the text's end -/
noncomputable def esc : List Nat → Bool
  | [] => false
  | [92] => true
  | 92 :: _ :: r => esc r
  | _ :: r => esc r
noncomputable def Pn : Nat → List Nat → List Nat
  | 0, l => l
  | n + 1, l => Pn n (P l)
inductive Chn : List Nat → List Nat → List Nat → Prop
  | stop {l} : l.head? ≠ some 34 → Chn l [] l
  | last {n rest} : 1 ≤ n → rest.head? ≠ some 34 → rest.take 2 ≠ [92, 34] → Chn (List.replicate n 34 ++ rest) [n] rest
  | more {n r ns rest} : 1 ≤ n → Chn (34 :: r) ns rest → Chn (List.replicate n 34 ++ 92 :: 34 :: r) (n :: ns) rest
inductive Lev : List Nat → List (List Nat × List Nat) → Prop
  | nil : Lev [] []
  | even {pre post} : 34 ∉ pre → (post = [] ∨ post.head? = some 34) → esc pre = false → Lev (pre ++ post) [(Lx pre, [])]
  | gone {pre} : 34 ∉ pre → esc pre = true → Lev pre [(Lx pre, [])]
  | odd {pre post ch rest ls} : 34 ∉ pre → post.head? = some 34 → esc pre = true → Chn post ch rest → Lev rest ls → Lev (pre ++ post) ((Lx pre, ch) :: ls)
noncomputable def whole (b : Nat) : List Nat → Nat
  | [] => 0
  | n :: r => if n = 2 ^ b then whole b r + 1 else 0
noncomputable def over (b : Nat) (ch : List Nat) : Nat := match ch[whole b ch]? with
  | some n => if n > 2 ^ b then 1 else 0
  | none => 0
noncomputable def marks (b : Nat) (ch : List Nat) : Nat := whole b ch + over b ch
abbrev ends (b a : Nat) (ch : List Nat) : Prop := ch = [] ∨ whole b ch < ch.length ∨ marks b ch % 2 ^ a ≠ 0
noncomputable def due (b a : Nat) : List (List Nat × List Nat) → List Nat
  | [] => []
  | (told, ch) :: ls => told ++ List.replicate (marks b ch / 2 ^ a) 34 ++ if ends b a ch then [] else due b a ls

theorem P_q {r : List Nat} (h : r.head? ≠ some 34) : P (34 :: r) = [] := by
  cases r with
  | nil => rfl
  | cons c r =>
    have : c ≠ 34 := fun e => h (by rw [e]; rfl)
    rw [P.eq_def]
    split <;> simp_all
theorem P_c {c : Nat} {r : List Nat} (h : c ≠ 34) : P (c :: r) = c :: P r := by
  rw [P.eq_def]
  split <;> simp_all
theorem P_qq (r : List Nat) : P (34 :: 34 :: r) = 34 :: P r := rfl
theorem P_pre {pre : List Nat} (h : 34 ∉ pre) (r : List Nat) : P (pre ++ r) = pre ++ P r := by
  induction pre with
  | nil => rfl
  | cons c pre ih =>
    simp only [List.mem_cons, not_or] at h
    rw [List.cons_append, P_c (fun e => h.1 e.symm), ih h.2, List.cons_append]
theorem P_head {r : List Nat} (h : r.head? ≠ some 34) : (P r).head? ≠ some 34 := by
  cases r with
  | nil => simp [P]
  | cons c r =>
    have : c ≠ 34 := fun e => h (by rw [e]; rfl)
    rw [P_c this]
    exact h
theorem P_run {r : List Nat} (h : r.head? ≠ some 34) : ∀ n, P (List.replicate n 34 ++ r) = List.replicate (n / 2) 34 ++ if n % 2 = 0 then P r else []
  | 0 => by simp
  | 1 => by simp [P_q h]
  | n + 2 => by
    have e : List.replicate (n + 2) 34 ++ r = 34 :: 34 :: (List.replicate n 34 ++ r) := by simp [List.replicate_succ]
    rw [e, P_qq, P_run h n]
    have e1 : (n + 2) / 2 = n / 2 + 1 := by omega
    have e2 : (n + 2) % 2 = n % 2 := by omega
    rw [e1, e2, List.replicate_succ, List.cons_append]
theorem Pn_nil : ∀ b, Pn b [] = []
  | 0 => rfl
  | b + 1 => Pn_nil b
theorem Pn_pre {pre : List Nat} (h : 34 ∉ pre) : ∀ b r, Pn b (pre ++ r) = pre ++ Pn b r
  | 0, _ => rfl
  | b + 1, r => by
    show Pn b (P (pre ++ r)) = _
    rw [P_pre h, Pn_pre h b]
    rfl
theorem Pn_c {c : Nat} (h : c ≠ 34) (b : Nat) (r : List Nat) : Pn b (c :: r) = c :: Pn b r :=
  Pn_pre (pre := [c]) (by simpa using fun e => h e.symm) b r
theorem Pn_run : ∀ (b n : Nat) (r : List Nat), r.head? ≠ some 34 → Pn b (List.replicate n 34 ++ r) = List.replicate (n / 2 ^ b) 34 ++ if n % 2 ^ b = 0 then Pn b r else []
  | 0, n, r, _ => by simp [Pn, Nat.mod_one]
  | b + 1, n, r, h => by
    show Pn b (P (List.replicate n 34 ++ r)) = _
    rw [P_run h]
    have hd : (if n % 2 = 0 then P r else []).head? ≠ some 34 := by
      split
      · exact P_head h
      · simp
    rw [Pn_run b _ _ hd, Nat.div_div_eq_div_mul, ← Nat.pow_succ']
    congr 1
    have hm : n % 2 ^ (b + 1) = n % 2 + 2 * (n / 2 % 2 ^ b) := by
      rw [Nat.pow_succ', Nat.mod_mul]
    by_cases h2 : n % 2 = 0
    · rw [if_pos h2]
      by_cases h3 : n / 2 % 2 ^ b = 0
      · rw [if_pos h3, if_pos (by omega)]
        rfl
      · rw [if_neg h3, if_neg (by omega)]
    · rw [if_neg h2, if_neg (c := n % 2 ^ (b + 1) = 0) (by omega), Pn_nil]
      split <;> rfl

theorem Lx_q (r : List Nat) : Lx (34 :: r) = [] := by
  rw [Lx.eq_def]
  rfl
theorem Lx_e (r : List Nat) : Lx (92 :: r) = LxE r := by
  cases r <;> rfl
theorem Lx_c {c : Nat} (h1 : c ≠ 34) (h2 : c ≠ 92) (r : List Nat) : Lx (c :: r) = c :: Lx r := by
  rw [Lx.eq_def]
  split <;> simp_all
theorem Lx_pre : ∀ {pre : List Nat}, 34 ∉ pre → ∀ r, Lx (pre ++ r) = Lx pre ++ if esc pre then LxE r else Lx r
  | [], _, r => by simp [Lx, esc]
  | [92], _, r => by
    show Lx (92 :: r) = _
    rw [Lx_e]
    simp [Lx, esc]
  | 92 :: c :: p, h, r => by
    have h' : 34 ∉ p := fun m => h (by simp [m])
    show Lx (92 :: c :: (p ++ r)) = Lx (92 :: c :: p) ++ if esc (92 :: c :: p) then LxE r else Lx r
    rw [Lx_e, Lx_e]
    show c :: Lx (p ++ r) = c :: Lx p ++ if esc p then LxE r else Lx r
    rw [Lx_pre h']
    rfl
  | c :: p, h, r => by
    by_cases e : c = 92
    · subst e
      cases p with
      | nil =>
        show Lx (92 :: r) = _
        rw [Lx_e]
        simp [Lx, esc]
      | cons d p =>
        have h' : 34 ∉ p := fun m => h (by simp [m])
        show Lx (92 :: d :: (p ++ r)) = Lx (92 :: d :: p) ++ if esc (92 :: d :: p) then LxE r else Lx r
        rw [Lx_e, Lx_e]
        show d :: Lx (p ++ r) = d :: Lx p ++ if esc p then LxE r else Lx r
        rw [Lx_pre h']
        rfl
    · have h0 : c ≠ 34 := fun q => h (by simp [q])
      have h' : 34 ∉ p := fun m => h (by simp [m])
      have he : esc (c :: p) = esc p := by
        rw [esc.eq_def]
        split <;> simp_all
      rw [List.cons_append, Lx_c h0 e, Lx_c h0 e, Lx_pre h', he]
      rfl
theorem Lx_free : ∀ {pre : List Nat}, 34 ∉ pre → 34 ∉ Lx pre
  | [], _ => by simp [Lx]
  | [92], _ => by simp [Lx]
  | 92 :: c :: p, h => by
    have h' : 34 ∉ p := fun m => h (by simp [m])
    have hc : 34 ≠ c := fun e => h (by simp [← e])
    rw [Lx_e]
    show 34 ∉ c :: Lx p
    simp [hc, Lx_free h']
  | c :: p, h => by
    have h' : 34 ∉ p := fun m => h (by simp [m])
    have hc : 34 ≠ c := fun e => h (by simp [← e])
    by_cases e : c = 92
    · subst e
      cases p with
      | nil => simp [Lx]
      | cons d p =>
        have h'' : 34 ∉ p := fun m => h' (by simp [m])
        have hd : 34 ≠ d := fun e => h' (by simp [← e])
        rw [Lx_e]
        show 34 ∉ d :: Lx p
        simp [hd, Lx_free h'']
    · rw [Lx_c (fun q => hc q.symm) e]
      simp [hc, Lx_free h']
theorem Chn.ne {l ns rest} (h : Chn l ns rest) (hl : l.head? = some 34) : ns ≠ [] := by
  induction h with
  | stop h => exact absurd hl h
  | last => simp
  | more => simp
theorem Chn.rest {l ns rest} (h : Chn l ns rest) : rest.head? ≠ some 34 ∧ (ns ≠ [] → rest.take 2 ≠ [92, 34]) := by
  induction h with
  | stop h => exact ⟨h, fun e => absurd rfl e⟩
  | last _ h1 h2 => exact ⟨h1, fun _ => h2⟩
  | more _ h ih =>
    exact ⟨ih.1, fun _ => ih.2 (h.ne rfl)⟩
theorem one_run {b n : Nat} (hn : 1 ≤ n) {X Y : List Nat} (hX : X = if n % 2 ^ b = 0 then Y else []) :
    LxE (List.replicate (n / 2 ^ b) 34 ++ X) = if n = 2 ^ b then 34 :: Lx Y else if n > 2 ^ b then [34] else [] := by
  have hp : 0 < 2 ^ b := Nat.pow_pos (by decide)
  by_cases h1 : n = 2 ^ b
  · subst h1
    have : 2 ^ b / 2 ^ b = 1 := Nat.div_self hp
    rw [if_pos rfl, this, hX, if_pos (Nat.mod_self _)]
    rfl
  · rw [if_neg h1]
    by_cases h2 : n > 2 ^ b
    · rw [if_pos h2]
      have h3 : 1 ≤ n / 2 ^ b := (Nat.le_div_iff_mul_le hp).mpr (by omega)
      obtain ⟨k, hk⟩ : ∃ k, n / 2 ^ b = k + 1 := ⟨n / 2 ^ b - 1, by omega⟩
      rw [hk, List.replicate_succ]
      show 34 :: Lx (List.replicate k 34 ++ X) = [34]
      cases k with
      | zero =>
        have hm : n % 2 ^ b ≠ 0 := fun e => by
          have := Nat.div_add_mod n (2 ^ b)
          rw [hk, e] at this
          omega
        rw [hX, if_neg hm]
        rfl
      | succ k => rw [List.replicate_succ, List.cons_append, Lx_q]
    · rw [if_neg h2]
      have h3 : n < 2 ^ b := by omega
      rw [Nat.div_eq_of_lt h3, hX, Nat.mod_eq_of_lt h3, if_neg (by omega)]
      rfl
theorem whole_le (b : Nat) : ∀ ch, whole b ch ≤ ch.length
  | [] => Nat.le_refl _
  | n :: r => by
    unfold whole
    have := whole_le b r
    split
    · simp only [List.length_cons]; omega
    · exact Nat.zero_le _
theorem marks_eq {b : Nat} {ns : List Nat} : marks b (2 ^ b :: ns) = marks b ns + 1 := by
  unfold marks over
  have e : whole b (2 ^ b :: ns) = whole b ns + 1 := by simp [whole]
  rw [e]
  simp only [List.getElem?_cons_succ]
  omega
theorem marks_ne {b n : Nat} {ns : List Nat} (h : n ≠ 2 ^ b) : whole b (n :: ns) = 0 ∧ marks b (n :: ns) = if n > 2 ^ b then 1 else 0 := by
  have e : whole b (n :: ns) = 0 := by simp [whole, h]
  refine ⟨e, ?_⟩
  unfold marks over
  rw [e]
  simp
theorem lex_chain {b : Nat} {l ns rest} (h : Chn l ns rest) (hl : l.head? = some 34) :
    LxE (Pn b l) = List.replicate (marks b ns) 34 ++ if whole b ns = ns.length then Lx (Pn b rest) else [] := by
  induction h with
  | stop h => exact absurd hl h
  | @last n rest hn h1 h2 =>
    rw [Pn_run b n rest h1, one_run hn rfl]
    by_cases e : n = 2 ^ b
    · subst e
      rw [if_pos rfl, marks_eq]
      simp [marks, over, whole]
    · have := marks_ne (ns := []) e
      rw [if_neg e, this.1, this.2]
      split <;> simp
  | @more n r ns rest hn h ih =>
    have hq : (92 :: 34 :: r).head? ≠ some 34 := by simp
    rw [Pn_run b n _ hq, one_run hn rfl]
    by_cases e : n = 2 ^ b
    · subst e
      rw [if_pos rfl, marks_eq, Pn_c (by decide), Lx_e, ih rfl]
      have : whole b (2 ^ b :: ns) = whole b ns + 1 := by simp [whole]
      rw [this]
      simp only [List.length_cons, Nat.add_right_cancel_iff, List.replicate_succ, List.cons_append]
    · have := marks_ne (ns := ns) e
      rw [if_neg e, this.1, this.2]
      split <;> simp
theorem rest_head {b : Nat} {rest : List Nat} (h1 : rest.head? ≠ some 34) (h2 : rest.take 2 ≠ [92, 34]) : (Lx (Pn b rest)).head? ≠ some 34 := by
  cases rest with
  | nil => rw [Pn_nil]; simp [Lx]
  | cons c r =>
    have hc : c ≠ 34 := fun e => h1 (by rw [e]; rfl)
    rw [Pn_c hc]
    by_cases e : c = 92
    · subst e
      rw [Lx_e]
      cases r with
      | nil => rw [Pn_nil]; simp [LxE]
      | cons d r =>
        have hd : d ≠ 34 := fun e => h2 (by rw [e]; rfl)
        rw [Pn_c hd]
        show some d ≠ some 34
        simpa using hd
    · rw [Lx_c hc e]
      simpa using hc
theorem Pn_free {l : List Nat} (h : 34 ∉ l) (a : Nat) : Pn a l = l := by
  have := Pn_pre h a []
  rw [List.append_nil, Pn_nil, List.append_nil] at this
  exact this
theorem run_of {post : List Nat} (h : post.head? = some 34) : ∃ n r, 1 ≤ n ∧ r.head? ≠ some 34 ∧ post = List.replicate n 34 ++ r := by
  induction post with
  | nil => simp at h
  | cons c p ih =>
    have hc : c = 34 := by simpa using h
    subst hc
    by_cases e : p.head? = some 34
    · obtain ⟨n, r, h1, h2, h3⟩ := ih e
      exact ⟨n + 1, r, by omega, h2, by rw [List.replicate_succ, List.cons_append, ← h3]⟩
    · exact ⟨1, p, Nat.le_refl _, e, rfl⟩
/-- the law, for every text -/
theorem plain {b a : Nat} {t : List Nat} {ls : List (List Nat × List Nat)} (h : Lev t ls) : Pn a (Lx (Pn b t)) = due b a ls := by
  induction h with
  | nil => rw [Pn_nil]; simp [Lx, due, Pn_nil]
  | @even pre post h1 h2 h3 =>
    have e : Lx (Pn b (pre ++ post)) = Lx pre := by
      rw [Pn_pre h1, Lx_pre h1, h3]
      rcases h2 with rfl | h2
      · rw [Pn_nil]; simp [Lx]
      · obtain ⟨n, r, hn, hr, rfl⟩ := run_of h2
        rw [Pn_run b n r hr]
        by_cases hz : n / 2 ^ b = 0
        · have hp : 0 < 2 ^ b := Nat.pow_pos (by decide)
          have hlt : n < 2 ^ b := by
            rcases Nat.div_eq_zero_iff.mp hz with q | q
            · omega
            · exact q
          rw [hz, Nat.mod_eq_of_lt hlt, if_neg (c := n = 0) (by omega)]
          simp [Lx]
        · obtain ⟨k, hk⟩ : ∃ k, n / 2 ^ b = k + 1 := Nat.exists_eq_succ_of_ne_zero hz
          rw [hk, List.replicate_succ, List.cons_append, Lx_q]
          simp
    rw [e, Pn_free (Lx_free h1)]
    simp [due, marks, whole, over, ends]
  | @gone pre h1 h2 =>
    rw [Pn_free h1, Pn_free (Lx_free h1)]
    simp [due, marks, whole, over, ends]
  | @odd pre post ch rest ls h1 h2 h3 h4 h5 ih =>
    have hne := h4.ne h2
    obtain ⟨hr1, hr2⟩ := h4.rest
    rw [Pn_pre h1, Lx_pre h1, h3, if_pos rfl, lex_chain h4 h2, Pn_pre (Lx_free h1)]
    have hd : (if whole b ch = ch.length then Lx (Pn b rest) else []).head? ≠ some 34 := by
      split
      · exact rest_head hr1 (hr2 hne)
      · simp
    rw [Pn_run a _ _ hd]
    simp only [due, List.append_assoc]
    congr 2
    have hw := whole_le b ch
    by_cases hm : marks b ch % 2 ^ a = 0
    · rw [if_pos hm]
      by_cases hl : whole b ch = ch.length
      · rw [if_pos hl, if_neg, ih]
        rintro (q | q | q)
        · exact hne q
        · omega
        · exact q hm
      · rw [if_neg hl, if_pos (.inr (.inl (by omega))), Pn_nil]
    · rw [if_neg hm, if_pos (.inr (.inr hm))]
end Mine
end

-- part Tx
section
open PySem PySem.W PyProof.Rows Builtin Builtin.Str
namespace Mine
/-- a text's signs -/
abbrev cl (x : Str) : List Nat := x.cps.toList
theorem q_is : Str.ofString "\"" = ⟨#[34]⟩ := by decide +kernel
theorem b_is : Str.ofString "\\" = ⟨#[92]⟩ := by decide +kernel
theorem bb_is : Str.ofString "\\\\" = ⟨#[92, 92]⟩ := by decide +kernel
theorem bq_is : Str.ofString "\\\"" = ⟨#[92, 34]⟩ := by decide +kernel
theorem e_is : Str.ofString "" = ⟨#[]⟩ := by decide +kernel
theorem len_cl (x : Str) : x.length = (cl x).length := by simp [Str.length]
theorem cl_append (x y : Str) : cl (x ++ y) = cl x ++ cl y := by simp [cl, Str.cps_append]
theorem str_ext {x y : Str} (h : cl x = cl y) : x = y := Str.ext' (Array.toList_inj.mp h)
theorem item_at {x : Str} {i : Int} (h0 : 0 ≤ i) (h1 : i < x.length) : ∃ c, (cl x)[i.toNat]? = some c ∧ Txt.item x i = ⟨#[c]⟩ ∧ (cl x).drop i.toNat = c :: (cl x).drop (i.toNat + 1) := by
  have hlt : i.toNat < (cl x).length := by rw [← len_cl]; omega
  refine ⟨(cl x)[i.toNat], by simp, item_meets h0 ?_, List.drop_eq_getElem_cons hlt⟩
  simpa using List.getElem?_eq_getElem hlt
theorem one_eq {c d : Nat} : ((⟨#[c]⟩ : Str) == ⟨#[d]⟩) = decide (c = d) := by
  rw [Bool.eq_iff_iff]
  simp
/-- slices with written ends, of any text -/
theorem slice_cl {x : Str} {i j : Int} (h0 : 0 ≤ i) (h1 : 0 ≤ j) : cl (Txt.slice x (some i) (some j)) = ((cl x).drop i.toNat).take (j.toNat - i.toNat) := by
  have key : strSliceIndices (some i) (some j) 1 x.length = (List.range ((min j.toNat x.length) - (min i.toNat x.length))).map (fun k => (min i.toNat x.length) + k) := by
    have h2 : ¬ (i < 0) := by omega
    have h3 : ¬ (j < 0) := by omega
    have e1 : max (0 : Int) (min i (x.length : Int)) = ((min i.toNat x.length : Nat) : Int) := by omega
    have e2 : max (0 : Int) (min j (x.length : Int)) = ((min j.toNat x.length : Nat) : Int) := by omega
    simp only [strSliceIndices, sliceRange, h2, h3, if_false, e1, e2, show ((1 : Int) > 0) = True from by simp, if_true]
    generalize min i.toNat x.length = a
    generalize min j.toNat x.length = b
    by_cases hlt : (a : Int) < b
    · have e3 : (((b : Int) - a + 1 - 1) / 1).toNat = b - a := by first | omega | (simp; done) | (simp; omega)
      simp only [hlt, if_true, e3]
      refine List.map_congr_left fun k _ => ?_
      omega
    · have : b - a = 0 := by omega
      simp [hlt, this]
  have pk : (strSliceIndices (some i) (some j) 1 x.length).filterMap (x.cps[·]?) = ((cl x).drop i.toNat).take (j.toNat - i.toNat) := by
    rw [key]
    by_cases hi : i.toNat ≤ x.length
    · by_cases hj : i.toNat ≤ j.toNat
      · have := StrLaws.picks (cl x) (min j.toNat x.length - i.toNat) i.toNat (by rw [← len_cl]; omega)
        have e4 : min i.toNat x.length = i.toNat := by omega
        rw [e4]
        have e5 : ∀ l : List Nat, l.filterMap (x.cps[·]?) = l.filterMap ((cl x)[·]?) := fun l => by simp
        rw [e5, this]
        by_cases hx : j.toNat ≤ x.length
        · rw [show min j.toNat x.length = j.toNat by omega]
        · rw [show min j.toNat x.length = x.length by omega, List.take_of_length_le (i := x.length - i.toNat) (by rw [List.length_drop, ← len_cl]; omega), List.take_of_length_le (by rw [List.length_drop, ← len_cl]; omega)]
      · rw [show min j.toNat x.length - min i.toNat x.length = 0 by omega, show j.toNat - i.toNat = 0 by omega]
        simp
    · rw [show min j.toNat x.length - min i.toNat x.length = 0 by omega, List.drop_eq_nil_of_le (by rw [← len_cl]; omega)]
      simp
  unfold Txt.slice
  split
  · rename_i h
    have hl : (strSliceIndices (some i) (some j) 1 x.length).length = x.length := by simpa using h
    rw [key, List.length_map, List.length_range] at hl
    by_cases hz : x.length = 0
    · have : cl x = [] := List.eq_nil_of_length_eq_zero (by rw [← len_cl]; exact hz)
      rw [this]; simp
    · have hi : i.toNat = 0 := by omega
      rw [hi, List.drop_zero, List.take_of_length_le (by rw [← len_cl]; omega)]
  · rw [← pk]
theorem slice_to_cl {x : Str} {j : Int} (h1 : 0 ≤ j) : cl (Txt.slice x none (some j)) = (cl x).take j.toNat := by
  have e : Txt.slice x none (some j) = Txt.slice x (some 0) (some j) := by
    have : strSliceIndices none (some j) 1 x.length = strSliceIndices (some 0) (some j) 1 x.length := by
      have m0 : max (0 : Int) (min 0 (x.length : Int)) = 0 := by omega
      unfold strSliceIndices sliceRange
      simp [m0]
    unfold Txt.slice
    rw [this]
  rw [e, slice_cl (Int.le_refl _) h1]
  simp
theorem slice_from_cl {x : Str} {i : Int} (h0 : 0 ≤ i) (h1 : i ≤ x.length) : cl (Txt.slice x (some i) none) = (cl x).drop i.toNat := by
  have e : Txt.slice x (some i) none = Txt.slice x (some i) (some (x.length : Int)) := by
    have : strSliceIndices (some i) none 1 x.length = strSliceIndices (some i) (some (x.length : Int)) 1 x.length := by
      have m0 : ¬ (x.length : Int) < 0 := by omega
      have m1 : max (0 : Int) (min (x.length : Int) (x.length : Int)) = x.length := by omega
      unfold strSliceIndices sliceRange
      simp only [if_neg m0, m1]
      simp
    unfold Txt.slice
    rw [this]
  rw [e, slice_cl h0 (by omega), List.take_of_length_le]
  rw [List.length_drop, ← len_cl]; omega

-- parse257
def PInv (resp : Str) (i : Int) (d : Str) : Prop := cl d ++ P ((cl resp).drop i.toNat) = P ((cl resp).drop 5)
noncomputable def Pf (x : Str) : Str := ⟨(P (cl x)).toArray⟩
theorem pinv_start {resp : Str} (h5 : 5 ≤ resp.length) : (5 : Int) ≤ 5 ∧ (5 : Int) ≤ (resp.length : Int) ∧ ((Str.ofString "").length : Int) ≤ 5 ∧ PInv resp 5 (Str.ofString "") := by
  refine ⟨Int.le_refl _, by omega, by rw [e_is]; decide, ?_⟩
  rw [e_is]
  rfl
theorem P_two {c : Nat} {r : List Nat} : P (34 :: c :: r) = if c = 34 then 34 :: P r else [] := by
  by_cases h : c = 34
  · subst h; rfl
  · rw [if_neg h, P_q (by simpa using h)]
theorem pinv_one {resp d : Str} {i : Int} (h0 : 5 ≤ i) (h1 : i < (resp.length : Int)) (hd : (d.length : Int) ≤ i) (hp : PInv resp i d) (hc : (Txt.item resp i == Str.ofString "\"") = false) :
    5 ≤ i + 1 ∧ i + 1 ≤ (resp.length : Int) ∧ (((d ++ Txt.item resp i).length : Nat) : Int) ≤ i + 1 ∧ PInv resp (i + 1) (d ++ Txt.item resp i) := by
  obtain ⟨c, e1, e2, e3⟩ := item_at (by omega : 0 ≤ i) h1
  rw [e2, q_is, one_eq] at hc
  have hc : c ≠ 34 := of_decide_eq_false hc
  refine ⟨by omega, by omega, by rw [Str.length_append, e2]; show ((d.length + 1 : Nat) : Int) ≤ _; omega, ?_⟩
  unfold PInv at hp ⊢
  rw [e3, P_c hc] at hp
  rw [cl_append, e2, ← hp, show (i + 1).toNat = i.toNat + 1 by omega]
  simp [cl]
theorem pinv_two {resp d : Str} {i : Int} (h0 : 5 ≤ i) (h1 : i < (resp.length : Int)) (hd : (d.length : Int) ≤ i) (hp : PInv resp i d) (hc : (Txt.item resp i == Str.ofString "\"") = true)
    (h2 : ¬ (resp.length : Int) ≤ i + 1) (hc2 : (Txt.item resp (i + 1) != Str.ofString "\"") = false) :
    5 ≤ i + 1 + 1 ∧ i + 1 + 1 ≤ (resp.length : Int) ∧ (((d ++ Txt.item resp i).length : Nat) : Int) ≤ i + 1 + 1 ∧ PInv resp (i + 1 + 1) (d ++ Txt.item resp i) := by
  obtain ⟨c, e1, e2, e3⟩ := item_at (by omega : 0 ≤ i) h1
  obtain ⟨c', e1', e2', e3'⟩ := item_at (by omega : 0 ≤ i + 1) (by omega : i + 1 < (resp.length : Int))
  rw [e2, q_is, one_eq] at hc
  rw [e2', q_is, bne, one_eq] at hc2
  have hc : c = 34 := of_decide_eq_true hc
  have hc2 : c' = 34 := by simpa using hc2
  subst hc hc2
  refine ⟨by omega, by omega, by rw [Str.length_append, e2]; show ((d.length + 1 : Nat) : Int) ≤ _; omega, ?_⟩
  unfold PInv at hp ⊢
  rw [show (i + 1).toNat = i.toNat + 1 by omega] at e3'
  rw [e3, e3', P_qq] at hp
  rw [cl_append, e2, ← hp, show (i + 1 + 1).toNat = i.toNat + 1 + 1 by omega]
  simp [cl]
theorem pinv_brk {resp d x : Str} {i : Int} (hx : cl resp = [50, 53, 55, 32, 34] ++ cl x) (h0 : 5 ≤ i) (h1 : i < (resp.length : Int)) (hp : PInv resp i d) (hc : (Txt.item resp i == Str.ofString "\"") = true)
    (h2 : (resp.length : Int) ≤ i + 1 ∨ (i + 1 < (resp.length : Int) ∧ (Txt.item resp (i + 1) != Str.ofString "\"") = true)) : d = Pf x := by
  obtain ⟨c, e1, e2, e3⟩ := item_at (by omega : 0 ≤ i) h1
  rw [e2, q_is, one_eq] at hc
  have hc : c = 34 := of_decide_eq_true hc
  subst hc
  have hq : P (34 :: (cl resp).drop (i.toNat + 1)) = [] := by
    rcases h2 with h2 | ⟨h2, h3⟩
    · rw [List.drop_eq_nil_of_le (by rw [← len_cl]; omega)]; rfl
    · obtain ⟨c', e1', e2', e3'⟩ := item_at (by omega : 0 ≤ i + 1) h2
      rw [e2', q_is, bne, one_eq] at h3
      rw [show (i + 1).toNat = i.toNat + 1 by omega] at e3'
      rw [e3', P_q]
      simpa using h3
  unfold PInv at hp
  rw [e3, hq, List.append_nil, hx] at hp
  exact str_ext hp
theorem pinv_end {resp d x : Str} {i : Int} (hx : cl resp = [50, 53, 55, 32, 34] ++ cl x) (h0 : 5 ≤ i) (h1 : ¬ i < (resp.length : Int)) (hp : PInv resp i d) : d = Pf x := by
  unfold PInv at hp
  rw [List.drop_eq_nil_of_le (by rw [← len_cl]; omega), hx, show P [] = [] from rfl, List.append_nil] at hp
  exact str_ext hp
theorem resp_cl (x : Str) : cl (Str.ofString "257 \"" ++ x) = [50, 53, 55, 32, 34] ++ cl x := by
  rw [cl_append, show Str.ofString "257 \"" = ⟨#[50, 53, 55, 32, 34]⟩ by decide +kernel]
theorem resp_3 {resp x : Str} (hx : cl resp = [50, 53, 55, 32, 34] ++ cl x) : (Txt.slice resp none (some 3) != Str.ofString "257") = false := by
  have : Txt.slice resp none (some 3) = Str.ofString "257" := str_ext (by rw [slice_to_cl (by decide), hx, show Str.ofString "257" = ⟨#[50, 53, 55]⟩ by decide +kernel]; rfl)
  rw [this]; simp
theorem resp_35 {resp x : Str} (hx : cl resp = [50, 53, 55, 32, 34] ++ cl x) : (Txt.slice resp (some 3) (some 5) != Str.ofString " \"") = false := by
  have : Txt.slice resp (some 3) (some 5) = Str.ofString " \"" := str_ext (by rw [slice_cl (by decide) (by decide), hx, show Str.ofString " \"" = ⟨#[32, 34]⟩ by decide +kernel]; rfl)
  rw [this]; simp
end Mine
end

-- part Sp
section
open PySem PySem.W PyProof.Rows Builtin Builtin.Str StrLaws
namespace Mine
def noB (l : List Nat) : List Nat := l.filter (fun c => c != 92)
/-- joined by a backslash -/
noncomputable def J : List (List Nat) → List Nat
  | [] => []
  | [p] => p
  | p :: q :: r => p ++ 92 :: J (q :: r)
theorem join_J : ∀ ps : List Str, cl (Str.join ⟨#[92]⟩ ps) = J (ps.map cl)
  | [] => rfl
  | [_] => rfl
  | p :: q :: r => by
    show cl (p ++ ⟨#[92]⟩ ++ Str.join ⟨#[92]⟩ (q :: r)) = _
    rw [cl_append, cl_append, join_J (q :: r)]
    simp [J, cl]
theorem noB_free {l : List Nat} (h : 92 ∉ l) : noB l = l := by
  refine List.filter_eq_self.mpr fun c hc => ?_
  simp only [bne_iff_ne, ne_eq]
  rintro rfl
  exact h hc
theorem join_noB : ∀ ps : List Str, (∀ p ∈ ps, 92 ∉ cl p) → cl (Str.join ⟨#[]⟩ ps) = noB (cl (Str.join ⟨#[92]⟩ ps))
  | [], _ => rfl
  | [p], h => (noB_free (h p (.head _))).symm
  | p :: q :: r, h => by
    show cl (p ++ ⟨#[]⟩ ++ Str.join ⟨#[]⟩ (q :: r)) = noB (cl (p ++ ⟨#[92]⟩ ++ Str.join ⟨#[92]⟩ (q :: r)))
    rw [cl_append, cl_append, cl_append, cl_append, join_noB (q :: r) fun p hp => h p (.tail _ hp)]
    have h1 := noB_free (h p (.head _))
    simp only [noB, List.filter_append] at h1 ⊢
    rw [h1]
    rfl
theorem replace_b (x : Str) : cl (Txt.replace x ⟨#[92]⟩ ⟨#[]⟩) = noB (cl x) := by
  rw [replace_one, join_noB _ (split_free x 92), join_split]
def pair (l : List Nat) (k : Nat) : Prop := ∃ r, l.drop k = 92 :: 92 :: r
theorem at_iff {x : Str} {k : Nat} : At x ⟨#[92, 92]⟩ x.length k ↔ pair (cl x) k := by
  unfold At pair
  rw [subAt_eq]
  constructor
  · rintro ⟨h1, h2⟩
    have h2 := eq_of_beq h2
    refine ⟨(cl x).drop (k + 2), ?_⟩
    have e : (cl x).drop k = ((cl x).drop k).take 2 ++ (cl x).drop (k + 2) := by
      rw [← List.drop_drop]; exact (List.take_append_drop 2 _).symm
    rw [e]
    have h3 : ((cl x).drop k).take 2 = [92, 92] := h2
    rw [h3]
    rfl
  · rintro ⟨r, hr⟩
    refine ⟨?_, ?_⟩
    · have := congrArg List.length hr
      rw [List.length_drop, ← len_cl] at this
      simp only [List.length_cons] at this
      show k + 2 ≤ x.length
      omega
    · show ((cl x).drop k).take 2 == [92, 92]
      rw [hr]
      rfl
theorem seg_mid {r : List Nat} : ∀ {u : List Nat}, 34 ∉ u → (∀ k, k < u.length → ¬ pair (u ++ 92 :: 92 :: r) k) → Lx (u ++ 92 :: 92 :: r) = noB u ++ 92 :: Lx r ∧ esc (u ++ 92 :: 92 :: r) = esc r
  | [], _, _ => ⟨by simp [Lx_e, LxE, noB], by simp [esc]⟩
  | [c], h, hn => by
    have hc : c ≠ 34 := fun e => h (by simp [e])
    have hb : c ≠ 92 := by
      rintro rfl
      exact hn 0 (by simp) ⟨92 :: r, rfl⟩
    have ih := seg_mid (r := r) (u := []) (by simp) (by simp)
    constructor
    · show Lx (c :: ([] ++ 92 :: 92 :: r)) = _
      rw [Lx_c hc hb, ih.1]
      simp [noB, hb]
    · rw [← ih.2]
      show esc (c :: 92 :: 92 :: r) = _
      rw [esc.eq_def]
      split <;> simp_all
  | c :: d :: u, h, hn => by
    have hc : c ≠ 34 := fun e => h (by simp [e])
    have hd : d ≠ 34 := fun e => h (by simp [e])
    have hu : 34 ∉ u := fun e => h (by simp [e])
    by_cases hb : c = 92
    · subst hb
      have hdb : d ≠ 92 := by
        rintro rfl
        exact hn 0 (by simp) ⟨u ++ 92 :: 92 :: r, rfl⟩
      have ih := seg_mid (r := r) (u := u) hu fun k hk ⟨q, hq⟩ => hn (k + 2) (by simpa using hk) ⟨q, by simpa using hq⟩
      constructor
      · show Lx (92 :: d :: (u ++ 92 :: 92 :: r)) = _
        rw [Lx_e]
        show d :: Lx (u ++ 92 :: 92 :: r) = _
        rw [ih.1]
        simp [noB, hdb]
      · show esc (u ++ 92 :: 92 :: r) = _
        exact ih.2
    · have ih := seg_mid (r := r) (u := d :: u) (by simp [hd.symm, hu]) fun k hk ⟨q, hq⟩ => hn (k + 1) (by simpa using hk) ⟨q, by simpa using hq⟩
      constructor
      · show Lx (c :: (d :: u ++ 92 :: 92 :: r)) = _
        rw [Lx_c hc hb, ih.1]
        simp [noB, hb]
      · rw [← ih.2]
        show esc (c :: (d :: u ++ 92 :: 92 :: r)) = _
        rw [esc.eq_def]
        split <;> simp_all
theorem seg_end : ∀ {u : List Nat}, 34 ∉ u → (∀ k, ¬ pair u k) → Lx u = noB u ∧ (esc u = true ↔ u.getLast? = some 92)
  | [], _, _ => ⟨rfl, by simp [esc]⟩
  | [c], h, _ => by
    have hc : c ≠ 34 := fun e => h (by simp [e])
    by_cases hb : c = 92
    · subst hb
      exact ⟨rfl, by simp [esc]⟩
    · refine ⟨by rw [Lx_c hc hb]; simp [Lx, noB, hb], ?_⟩
      have : esc [c] = false := by
        rw [esc.eq_def]
        split <;> simp_all [esc]
      rw [this]
      simp [hb]
  | c :: d :: u, h, hn => by
    have hc : c ≠ 34 := fun e => h (by simp [e])
    have hd : d ≠ 34 := fun e => h (by simp [e])
    have hu : 34 ∉ u := fun e => h (by simp [e])
    by_cases hb : c = 92
    · subst hb
      have hdb : d ≠ 92 := by
        rintro rfl
        exact hn 0 ⟨u, rfl⟩
      have ih := seg_end (u := u) hu fun k ⟨q, hq⟩ => hn (k + 2) ⟨q, by simpa using hq⟩
      constructor
      · rw [Lx_e]
        show d :: Lx u = _
        rw [ih.1]
        simp [noB, hdb]
      · show esc u = true ↔ _
        rw [ih.2]
        cases u with
        | nil => simp [hdb]
        | cons e u => simp
    · have ih := seg_end (u := d :: u) (by simp [hd.symm, hu]) fun k ⟨q, hq⟩ => hn (k + 1) ⟨q, by simpa using hq⟩
      constructor
      · rw [Lx_c hc hb, ih.1]
        simp [noB, hb]
      · have : esc (c :: d :: u) = esc (d :: u) := by
          rw [esc.eq_def]
          split <;> simp_all
        rw [this, ih.2]
        simp
theorem parts_lx (x : Str) (hx : 34 ∉ cl x) : ∀ (cuts : List Nat) (a f : Nat), ChainG x ⟨#[92, 92]⟩ x.length a cuts f → (∀ k, f ≤ k → ¬ At x ⟨#[92, 92]⟩ x.length k) →
    J ((partsFrom x 2 a cuts).map fun p => noB (cl p)) = Lx ((cl x).drop a) ∧ ∃ ini z, partsFrom x 2 a cuts = ini ++ [z] ∧ (esc ((cl x).drop a) = true ↔ (cl z).getLast? = some 92)
  | [], a, f, h, hn => by
    have e : f = a := h
    subst e
    have es : cl (strSub x f x.length) = (cl x).drop f := by
      show (strSub x f x.length).cps.toList = _
      rw [strSub_toList]
      exact List.take_of_length_le (by rw [List.length_drop, ← len_cl]; exact Nat.le_refl _)
    have := seg_end (u := (cl x).drop f) (fun m => hx (List.mem_of_mem_drop m)) fun k hk => hn (f + k) (by omega) (at_iff.mpr (by
      obtain ⟨r, hr⟩ := hk
      exact ⟨r, by rw [← hr, List.drop_drop]⟩))
    refine ⟨?_, [], _, rfl, ?_⟩
    · show noB (cl (strSub x f x.length)) = _
      rw [es, this.1]
    · rw [es]
      exact this.2
  | c :: cuts, a, f, h, hn => by
    obtain ⟨hac, hc, hno, hr⟩ := h
    have ih := parts_lx x hx cuts (c + 2) f hr hn
    obtain ⟨p, q, e⟩ := partsFrom_ne x 2 (c + 2) cuts
    obtain ⟨r, hr'⟩ := at_iff.mp hc
    have e2 : r = (cl x).drop (c + 2) := by
      rw [← List.drop_drop, hr']
      rfl
    have es : cl (strSub x a c) = ((cl x).drop a).take (c - a) := by
      show (strSub x a c).cps.toList = _
      rw [strSub_toList]
    have ed : (cl x).drop a = cl (strSub x a c) ++ 92 :: 92 :: r := by
      rw [es, ← hr']
      have : (cl x).drop c = ((cl x).drop a).drop (c - a) := by rw [List.drop_drop]; congr 1; omega
      rw [this, List.take_append_drop]
    have sm := seg_mid (r := r) (u := cl (strSub x a c)) (fun m => hx (by rw [es] at m; exact List.mem_of_mem_drop (List.mem_of_mem_take m))) fun k hk hp => hno (a + k) (by omega) (by
        rw [es, List.length_take] at hk
        omega) (at_iff.mpr (by
          obtain ⟨r1, hr1⟩ := hp
          exact ⟨r1, by rw [← hr1, ← ed, List.drop_drop]⟩))
    rw [← ed] at sm
    constructor
    · show J ((strSub x a c :: partsFrom x 2 (c + 2) cuts).map _) = _
      rw [sm.1, e2, ← ih.1, e]
      rfl
    · obtain ⟨ini, z, e3, h3⟩ := ih.2
      refine ⟨strSub x a c :: ini, z, ?_, ?_⟩
      · show strSub x a c :: partsFrom x 2 (c + 2) cuts = _
        rw [e3]
        rfl
      · rw [sm.2, e2]
        exact h3
theorem split_chain (x : Str) : ∃ cuts f, Txt.split x ⟨#[92, 92]⟩ = partsFrom x 2 0 cuts ∧ ChainG x ⟨#[92, 92]⟩ x.length 0 cuts f ∧ ∀ k, f ≤ k → ¬ At x ⟨#[92, 92]⟩ x.length k := by
  obtain ⟨f, h1, h2⟩ := occ_tight x ⟨#[92, 92]⟩ (by decide)
  have whole : [x] = partsFrom x 2 0 [] := by
    show _ = [strSub x 0 x.length]
    rw [sub_whole]
  unfold Txt.split
  split
  · rename_i h
    refine ⟨[], 0, whole, rfl, fun k _ hA => ?_⟩
    rw [Bool.or_eq_true] at h
    rcases h with h | h
    · have := of_decide_eq_true h
      have h3 := hA.1
      omega
    · have hk : strKind ⟨#[92, 92]⟩ = strKind ⟨#[92]⟩ := by decide +kernel
      have hfr := kind_free x 92 (by rw [← hk]; exact of_decide_eq_true h)
      obtain ⟨r, hr⟩ := at_iff.mp hA
      exact hfr (List.mem_of_mem_drop (i := k) (by rw [show x.cps.toList = cl x from rfl, hr]; simp))
  · split
    · rename_i he
      have he : occurrences x ⟨#[92, 92]⟩ 0 x.length (x.length + 1) = [] := by simpa using he
      rw [he] at h1
      exact ⟨[], f, whole, h1, h2⟩
    · exact ⟨_, f, partsBetween_eq _ _ _, h1, h2⟩
/-- what a level's text is told as -/
theorem told_is {x : Str} (hx : 34 ∉ cl x) : J ((Txt.split x ⟨#[92, 92]⟩).map fun p => noB (cl p)) = Lx (cl x) ∧ ∃ ini z, Txt.split x ⟨#[92, 92]⟩ = ini ++ [z] ∧ (esc (cl x) = true ↔ (cl z).getLast? = some 92) := by
  obtain ⟨cuts, f, e, h1, h2⟩ := split_chain x
  rw [e]
  simpa using parts_lx x hx cuts 0 f h1 h2
theorem noB_len (l : List Nat) : (noB l).length ≤ l.length := List.length_filter_le _ _
theorem join_len (y : Str) : ∀ ps : List Str, ps ≠ [] → (Str.join y ps).length + y.length = (ps.map (·.length)).sum + ps.length * y.length
  | [], h => absurd rfl h
  | [p], _ => by
    show p.length + y.length = _
    simp
  | p :: q :: r, _ => by
    have ih := join_len y (q :: r) (by simp)
    show (p ++ y ++ Str.join y (q :: r)).length + y.length = _
    rw [Str.length_append, Str.length_append]
    simp only [List.map_cons, List.sum_cons, List.length_cons, Nat.succ_mul] at ih ⊢
    omega
theorem split_sum (x : Str) : ((Txt.split x ⟨#[92, 92]⟩).map (·.length)).sum + (Txt.split x ⟨#[92, 92]⟩).length * 2 = x.length + 2 ∧ Txt.split x ⟨#[92, 92]⟩ ≠ [] := by
  have hne : Txt.split x ⟨#[92, 92]⟩ ≠ [] := by
    obtain ⟨cuts, f, e, _⟩ := split_chain x
    rw [e]
    obtain ⟨p, q, e2⟩ := partsFrom_ne x 2 0 cuts
    rw [e2]
    simp
  refine ⟨?_, hne⟩
  have := join_len ⟨#[92, 92]⟩ _ hne
  rw [join_split] at this
  exact this.symm
theorem map_noB_le : ∀ ps : List Str, ((ps.map fun p => Txt.replace p ⟨#[92]⟩ ⟨#[]⟩).map (·.length)).sum ≤ (ps.map (·.length)).sum
  | [] => Nat.le_refl _
  | p :: r => by
    have ih := map_noB_le r
    have h1 : (Txt.replace p ⟨#[92]⟩ ⟨#[]⟩).length ≤ p.length := by
      rw [len_cl, len_cl, replace_b]
      exact noB_len _
    simp only [List.map_cons, List.sum_cons] at ih ⊢
    omega
/-- the told text: its join may be made, and what it is -/
theorem told_join {x : Str} {l l' : List (Str × Tok)} (h : l.map (·.1) = Txt.split x (Str.ofString "\\\\")) (h' : l'.map (·.1) = l.map fun p => Txt.replace p.1 (Str.ofString "\\") (Str.ofString "")) :
    l'.map (·.1) = (Txt.split x ⟨#[92, 92]⟩).map (fun p => Txt.replace p ⟨#[92]⟩ ⟨#[]⟩) := by
  rw [b_is, e_is] at h'
  rw [bb_is] at h
  rw [h', ← h, List.map_map]
  rfl
theorem told_ok {x : Str} (hb : x.length ≤ 1000) : JoinOk (Str.ofString "\\") ((Txt.split x ⟨#[92, 92]⟩).map fun p => Txt.replace p ⟨#[92]⟩ ⟨#[]⟩) = true := by
  obtain ⟨h1, h2⟩ := split_sum x
  have h3 := map_noB_le (Txt.split x ⟨#[92, 92]⟩)
  unfold JoinOk
  rw [Bool.not_eq_true', StrLaws.joinTotal]
  have e : (2 : Nat) ^ 24 = 16777216 := by decide
  have h5 : (Str.ofString "\\").length = 1 := by decide +kernel
  unfold tooLong sizeLine
  rw [h5, List.length_map]
  exact decide_eq_false (by omega)
theorem told_cl {x : Str} (hx : 34 ∉ cl x) : cl (Txt.join (Str.ofString "\\") ((Txt.split x ⟨#[92, 92]⟩).map fun p => Txt.replace p ⟨#[92]⟩ ⟨#[]⟩)) = Lx (cl x) := by
  show cl (glued _ _) = _
  rw [StrLaws.glued_eq_join, b_is, join_J, ← (told_is hx).1, List.map_map]
  congr 1
  refine List.map_congr_left fun p _ => ?_
  exact replace_b p
theorem slice_last (z : Str) : (Txt.slice z (some (-1)) none == Str.ofString "\\") = decide ((cl z).getLast? = some 92) := by
  rw [b_is]
  by_cases h : z.length = 0
  · have e : cl z = [] := List.eq_nil_of_length_eq_zero (by rw [← len_cl]; exact h)
    have e2 : z = ⟨#[]⟩ := str_ext e
    subst e2
    decide +kernel
  · have h1 := eq_of_beq (slice_closes_from_neg (x := z) (i := -1) (a := -1 + z.length) (b := z.length) (by omega) (by omega) rfl rfl)
    rw [h1]
    have e : (z.length : Int) - (-1 + z.length) = 1 := by omega
    have e2 : (-1 + (z.length : Int)).toNat = z.length - 1 := by omega
    rw [e, e2]
    have hl : (cl z).length ≠ 0 := by rw [← len_cl]; exact h
    rw [List.getLast?_eq_getElem?, len_cl, Bool.eq_iff_iff]
    have e3 : (cl z).drop ((cl z).length - 1) = [(cl z)[(cl z).length - 1]] := by
      rw [List.drop_eq_getElem_cons (by omega), List.drop_eq_nil_of_le (by omega)]
    rw [show z.cps.toList = cl z from rfl, e3]
    simp only [beq_iff_eq, decide_eq_true_eq, Str.mk.injEq]
    rw [List.getElem?_eq_getElem (by omega)]
    simp
theorem le_sum : ∀ {ps : List Str} {z : Str}, z ∈ ps → z.length ≤ (ps.map (·.length)).sum
  | p :: r, z, h => by
    simp only [List.map_cons, List.sum_cons]
    rcases List.mem_cons.mp h with rfl | h
    · omega
    · have := le_sum h
      omega
theorem part_le {x z : Str} (h : z ∈ Txt.split x ⟨#[92, 92]⟩) : z.length ≤ x.length := by
  obtain ⟨h1, h2⟩ := split_sum x
  have h3 := le_sum h
  have h4 : (Txt.split x ⟨#[92, 92]⟩).length ≠ 0 := fun e => h2 (List.eq_nil_of_length_eq_zero e)
  omega
theorem Lx_len : ∀ l : List Nat, (Lx l).length ≤ l.length
  | [] => Nat.le_refl _
  | [c] => by
    rw [Lx.eq_def]
    split <;> simp_all [Lx]
  | c :: d :: r => by
    have h1 := Lx_len r
    have h2 := Lx_len (d :: r)
    by_cases hc : c = 34
    · rw [hc, Lx_q]; simp
    · by_cases hb : c = 92
      · rw [hb, Lx_e]
        show (Lx r).length + 1 ≤ _
        simp only [List.length_cons]
        omega
      · rw [Lx_c hc hb]
        simp only [List.length_cons] at h2 ⊢
        omega
end Mine
end

-- part Lp
section
open PySem PySem.W PyProof.Rows PySem.Spec
namespace Mine
section
variable {prog : Program} {w : World} {A : Around} {E : Value → Shared → Prop} {Q : Flow → Shared → Prop} {s : Shared} {env : Env} {h₀ : Heap} {L : Addr}

/-- a for by an invariant with a measure, over whatever the iterator hands on -/
theorem For_meas {target iter : Expr} {body orelse : List Stmt} {pos : Pos}
    (h : wpAny (model prog w) A (eval iter env) (fun x s₁ => wpAny (model prog w) A (pyIter x) (fun it s₂ => ∃ (I : Nat → Shared → Prop) (n₀ : Nat), I n₀ s₂ ∧
      ∀ n s', I n s' → wpAny (model prog w) A (pyNext it) (fun r s₃ => match r with
        | none => wpAny (model prog w) A (execs orelse env) Q E s₃
        | some v => wpAny (model prog w) A (letOwnedTupleGo target it v) (fun _ s₄ => wpAny (model prog w) A (assign target env v) (fun _ s₅ => wpAny (model prog w) A (execs body env) (fun f s₆ => match f with
            | .next | .cont => ∃ m, m < n ∧ I m s₆
            | .brk => Q .next s₆
            | .ret v => Q (.ret v) s₆) E s₅) E s₄) E s₃) E s') E s₁) E s)
    (hs : ∀ x, foldedSetIterable iter env x = pure x := by intro _; rfl)
    (hE : PassesOwn (model prog w) A env E := by passes_own) : wpAny (model prog w) A (exec (.For target iter body orelse pos) env) Q E s := by
  refine wpAny_For (wpAny_mono h (fun x s₁ h₁ => wpAny_mono h₁ (fun it s₂ h₂ => ?_) fun _ _ e => e) fun _ _ e => e) hs
  obtain ⟨I, n₀, h0, turn⟩ := h₂
  refine codeAny_forLoop_any (R := fun r s' => match r with | .ok f => Q f s' | .error e => cameBackBy (model prog w) A env E e s') I (fun n s' hI => wpAny_passesOwn hE (wpAny_mono (turn n s' hI) (fun r s₃ h₃ => ?_) fun _ _ e => e)) n₀ h0
  cases r with
  | none => exact wpAny_passesOwn hE h₃
  | some v =>
    refine wpAny_passesOwn hE (wpAny_mono h₃ (fun _ s₄ h₄ => ?_) fun _ _ e => e)
    refine wpAny_passesOwn hE (wpAny_mono h₄ (fun _ s₅ h₅ => ?_) fun _ _ e => e)
    exact wpAny_passesOwn hE h₅

/-- a loop's turn's end: letters c', the frame, the ledger -/
def LEnd {σ : Type} (h₀ : Heap) (L : Addr) (s : Shared) (Led : σ → List (Addr × Obj)) (ps : σ → List (Str × Value)) (stored : List Str) (m₀ : Str → Option Value) (own : List (Addr × Obj)) (P : σ → Prop) (s₂ : Shared) : Prop :=
  ∃ (c' : σ) (h' : Heap) (tk : Nat) (m' : Str → Option Value) (news' : List (Addr × Obj)), s₂ = { s with heap := h', toks := tk } ∧ Fr h₀ L h' m' ∧ News h₀ L h' news' ∧ (∀ p ∈ own, p ∈ news') ∧ (∀ p ∈ Led c', p ∈ news') ∧ (∀ q ∈ own, ∀ p ∈ Led c', p.1 ≠ q.1) ∧ (∀ p ∈ ps c', m' p.1 = some p.2) ∧
    (∀ z, (∀ p ∈ ps c', z ≠ p.1) → stored.contains z = false → m' z = m₀ z) ∧ P c'
def LPost {σ : Type} (h₀ : Heap) (L : Addr) (s : Shared) (Led : σ → List (Addr × Obj)) (ps : σ → List (Str × Value)) (stored : List Str) (m₀ : Str → Option Value) (own : List (Addr × Obj)) (P : σ → Prop) (Q : Flow → Shared → Prop) (f : Flow) (s₂ : Shared) : Prop :=
  match f with
  | .ret v => Q (.ret v) s₂
  | .brk => Q .next s₂
  | _ => LEnd h₀ L s Led ps stored m₀ own P s₂
theorem lend {σ : Type} {s : Shared} {Led : σ → List (Addr × Obj)} {ps : σ → List (Str × Value)} {stored : List Str} {m₀ m' : Str → Option Value} {own : List (Addr × Obj)} {P : σ → Prop} {h' : Heap} {tk : Nat} {news' : List (Addr × Obj)} (c' : σ)
    (F : Fr h₀ L h' m') (N : News h₀ L h' news') (ho : ∀ p ∈ own, p ∈ news') (hn : ∀ p ∈ Led c', p ∈ news') (hq : ∀ q ∈ own, ∀ p ∈ Led c', p.1 ≠ q.1) (hk : ∀ p ∈ ps c', m' p.1 = some p.2) (hr : ∀ z, (∀ p ∈ ps c', z ≠ p.1) → stored.contains z = false → m' z = m₀ z) (hp : P c') :
    LEnd h₀ L s Led ps stored m₀ own P { s with heap := h', toks := tk } := ⟨c', h', tk, m', news', rfl, F, N, ho, hn, hq, hk, hr, hp⟩

/-- for x1, x2 in l: l a list, of the ledger, of pairs of the ledger -/
theorem for_pairs {α : Type} {σ : Type} {x1 x2 : Str} {p1 p2 pt pos : Pos} {k : Nat} {iter : Expr} {body : List Stmt} {m₀ : Str → Option Value} {l : Addr} {vs : List Value} {n : Nat}
    (Led : σ → List (Addr × Obj)) (ps : σ → List (Str × Value)) (stored : List Str) (P : List α → σ → Prop) (c₀ : σ) (items : List α) (Rel : List (Addr × Obj) → α → Value → Value → Prop)
    (hL : env.locals = L) (hh : A.handled = none) (hx1 : env.kindOf x1 = some .local) (hx2 : env.kindOf x2 = some .local) (hp : (env.scope.kind == .class || (env.scope.kind == .module && env.locals != env.globals)) = false)
    (he : wpAny (model prog w) A (eval iter env) (fun v s₁ => v = Value.ref l ∧ s₁ = s) E s)
    (F : Fr h₀ L s.heap m₀) (N : News h₀ L s.heap (Led c₀)) (hk : ∀ p ∈ ps c₀, m₀ p.1 = some p.2) (hP : P items c₀)
    (hl : ∀ c, (l, listOf vs.toArray n) ∈ Led c) (hlen : vs.length = items.length)
    (hT : ∀ (c : σ) (i : Nat) (a : α), items[i]? = some a → ∃ (T : Addr) (v1 v2 : Value) (n' : Nat), vs[i]? = some (Value.ref T) ∧ (T, ({ cls := .type "tuple", data := .seq #[v1, v2] n' } : Obj)) ∈ Led c ∧ Rel (Led c) a v1 v2)
    (turn : ∀ a rest c (u : Str → Option Value) h tk v1 v2 It o, Rel (Led c) a v1 v2 → P (a :: rest) c → (∀ p ∈ Led c, p.1 ≠ It) →
      Fr h₀ L h (fun y => if y = x2 then some v2 else if y = x1 then some v1 else kstB (fun z => if stored.contains z then u z else m₀ z) (ps c) y) → News h₀ L h ((It, o) :: Led c) →
      wpAny (model prog w) A (execs body env) (LPost h₀ L s Led ps (x1 :: x2 :: stored) m₀ [(It, o)] (P rest) Q) E { s with heap := h, toks := tk })
    (done : ∀ c (u : Str → Option Value) h tk, P [] c → Fr h₀ L h (kstB (fun z => if (x1 :: x2 :: stored).contains z then u z else m₀ z) (ps c)) → News h₀ L h (Led c) → Q .next { s with heap := h, toks := tk })
    (hs : ∀ x, foldedSetIterable iter env x = pure x := by intro _; rfl)
    (hE : PassesOwn (model prog w) A env E := by passes_own) :
    wpAny (model prog w) A (exec (.For (.Tuple [.Name x1 p1, .Name x2 p2] k pt) iter body [] pos) env) Q E s := by
  subst hL
  refine For_meas (wpAny_mono he (fun v s₁ hv => ?_) fun _ _ e => e) hs hE
  obtain ⟨rfl, rfl⟩ := hv
  have hl0 := N _ (hl c₀)
  have hls : s₁.heap.IsList l vs.toArray := ⟨_, hl0.1, rfl, n, rfl⟩
  refine wpAny_pyIter_list hls ?_
  have hItL : s₁.heap.objs.size ≠ env.locals := Nat.ne_of_gt F.ns.lt
  refine ⟨fun q s' => ∃ i c h tk m₁, s' = { s₁ with heap := h, toks := tk } ∧ q = items.length + 1 - i ∧ i ≤ items.length ∧ h.IsListIter s₁.heap.objs.size l i ∧ Fr h₀ env.locals h m₁ ∧ News h₀ env.locals h (Led c) ∧ (∀ p ∈ Led c, p.1 ≠ s₁.heap.objs.size) ∧ h₀.get? s₁.heap.objs.size = none ∧
    (∀ p ∈ ps c, m₁ p.1 = some p.2) ∧ (∀ z, (∀ p ∈ ps c, z ≠ p.1) → (x1 :: x2 :: stored).contains z = false → m₁ z = m₀ z) ∧ P (items.drop i) c, items.length + 1, ⟨0, c₀, _, _, m₀, rfl, rfl, Nat.zero_le _, ⟨_, Heap.get?_push_size _ rfl, rfl, rfl⟩, F.push _, (fun p hp => ⟨Heap.get?_push_of_some _ (N p hp).1, (N p hp).2⟩), (fun p hp => Nat.ne_of_lt (Heap.lt_size (N p hp).1)), Heap.get?_none_of_le (Nat.le_of_lt (Nat.lt_of_le_of_lt F.above F.ns.lt)), hk, (fun _ _ _ => rfl), hP⟩, ?_⟩
  rintro q s' ⟨i, c, h, tk, m₁, rfl, rfl, hi, hit, F₁, N₁, hne, hfr, h1, h2, hP₁⟩
  have hl1 := N₁ _ (hl c)
  have hls1 : h.IsList l vs.toArray := ⟨_, hl1.1, rfl, n, rfl⟩
  have keepI : ∀ h', Heap.ExtBut s₁.heap.objs.size h h' → Fr h₀ env.locals h' m₁ ∧ News h₀ env.locals h' (Led c) := fun h' hx =>
    ⟨⟨F₁.ns.extBut hx hItL.symm, fun b o e => hx b o (fun q => by rw [q, hfr] at e; cases e) (F₁.keep b o e), F₁.above⟩, fun p hp => ⟨hx _ _ (hne p hp) (N₁ p hp).1, (N₁ p hp).2⟩⟩
  cases ha : items[i]? with
  | none =>
    have hin : i = items.length := by have := List.getElem?_eq_none_iff.mp ha; omega
    refine wpAny_pyNext_list_end hh hit hls1 (by simp [hlen, hin]) fun h' hx => wpAny_execs_nil ?_
    obtain ⟨F₂, N₂⟩ := keepI h' hx
    rw [hin, List.drop_length] at hP₁
    exact done c m₁ h' tk hP₁ (ksw_fr h1 h2 F₂) N₂
  | some a =>
    have hlt : i < items.length := (List.getElem?_eq_some_iff.mp ha).1
    obtain ⟨T, v1, v2, n', hv, hTm, hR⟩ := hT c i a ha
    have hdrop : items.drop i = a :: items.drop (i + 1) := by
      rw [List.drop_eq_getElem_cons hlt]
      congr 1
      exact (List.getElem?_eq_some_iff.mp ha).2
    rw [hdrop] at hP₁
    refine wpAny_pyNext_list_item hit hls1 (x := .ref T) (by simpa using hv) fun h₂ hit₂ hs₂ => ?_
    replace hs₂ : Heap.SameBut s₁.heap.objs.size h h₂ := hs₂
    obtain ⟨F₂, N₂⟩ := keepI h₂ hs₂.extBut
    refine wpAny_letOwnedTupleGo_listiter hit₂ ?_
    have hTup : h₂.IsTuple T #[v1, v2] := ⟨_, (N₂ _ hTm).1, rfl, n', rfl⟩
    refine wpAny_assign_Tuple hh hTup rfl rfl fun h₃ hx₃ => ?_
    replace hx₃ : Heap.ExtBut h₂.objs.size h₂ h₃ := hx₃
    have old₃ : ∀ b o, h₂.get? b = some o → h₃.get? b = some o := fun b o e => hx₃ b o (Nat.ne_of_lt (Heap.lt_size e)) e
    have F₃ : Fr h₀ env.locals h₃ m₁ := ⟨F₂.ns.at' fun o e => old₃ _ o e, fun b o e => old₃ b o (F₂.keep b o e), F₂.above⟩
    have N₃ : News h₀ env.locals h₃ (Led c) := fun p hp => ⟨old₃ _ _ (N₂ p hp).1, (N₂ p hp).2⟩
    obtain ⟨oI, hoI, hcI, hdI⟩ := hit₂
    have NI₃ : News h₀ env.locals h₃ ((s₁.heap.objs.size, oI) :: Led c) := fun p hp => by
      rcases List.mem_cons.mp hp with rfl | hp
      · exact ⟨old₃ _ _ hoI, hItL, hfr⟩
      · exact N₃ p hp
    show wpAny _ A (do holding [v2] (assign (.Name x1 p1) env v1); do holding [] (assign (.Name x2 p2) env v2); pure ()) _ _ _
    refine wpAny_bind (wpAny_holding (wpAny_assign_Name (wpAny_storeName_local hx1 F₃.ns (fun h₄ hn₄ hs₄ => ?_) hp)))
    replace hs₄ : Heap.SameBut env.locals h₃ h₄ := hs₄
    have F₄ := F₃.set hn₄ hs₄
    have N₄ := NI₃.set hs₄
    refine wpAny_bind (wpAny_holding (wpAny_assign_Name (wpAny_storeName_local hx2 F₄.ns (fun h₅ hn₅ hs₅ => wpAny_pure ?_) hp)))
    replace hs₅ : Heap.SameBut env.locals h₄ h₅ := hs₅
    have F₅ := F₄.set hn₅ hs₅
    have N₅ := N₄.set hs₅
    have F₆ : Fr h₀ env.locals h₅ (fun y => if y = x2 then some v2 else if y = x1 then some v1 else kstB (fun z => if stored.contains z then m₁ z else m₀ z) (ps c) y) := by
      have em : (fun y => if y = x2 then some v2 else if y = x1 then some v1 else kstB (fun z => if stored.contains z then m₁ z else m₀ z) (ps c) y) = fun y => if y = x2 then some v2 else if y = x1 then some v1 else m₁ y := by
        funext y
        by_cases e2 : y = x2
        · rw [if_pos e2, if_pos e2]
        · by_cases e1 : y = x1
          · rw [if_neg e2, if_neg e2, if_pos e1, if_pos e1]
          · rw [if_neg e2, if_neg e2, if_neg e1, if_neg e1]
            refine kstB_eq h1 fun hq => ?_
            show (if stored.contains y = true then m₁ y else m₀ y) = m₁ y
            cases h3 : stored.contains y with
            | true => simp
            | false =>
              simp only [Bool.false_eq_true, if_false]
              refine (h2 y hq ?_).symm
              simp only [List.contains_cons, h3, Bool.or_false, Bool.or_eq_false_iff, beq_eq_false_iff_ne, ne_eq]
              exact ⟨e1, e2⟩
      rw [em]
      exact F₅
    refine wpAny_mono (turn a (items.drop (i + 1)) c m₁ h₅ _ v1 v2 _ oI hR hP₁ hne F₆ N₅) (fun f s₆ h₆ => ?_) fun _ _ e => e
    have fin : LEnd h₀ env.locals s₁ Led ps (x1 :: x2 :: stored) m₀ [(s₁.heap.objs.size, oI)] (P (items.drop (i + 1))) s₆ → ∃ q', q' < items.length + 1 - i ∧ ∃ i c h tk m₁, s₆ = { s₁ with heap := h, toks := tk } ∧ q' = items.length + 1 - i ∧ i ≤ items.length ∧ h.IsListIter s₁.heap.objs.size l i ∧ Fr h₀ env.locals h m₁ ∧ News h₀ env.locals h (Led c) ∧ (∀ p ∈ Led c, p.1 ≠ s₁.heap.objs.size) ∧ h₀.get? s₁.heap.objs.size = none ∧
        (∀ p ∈ ps c, m₁ p.1 = some p.2) ∧ (∀ z, (∀ p ∈ ps c, z ≠ p.1) → (x1 :: x2 :: stored).contains z = false → m₁ z = m₀ z) ∧ P (items.drop i) c := by
      rintro ⟨c', h', tk', m', news', rfl, F', N', ho', hn', hq', hk', hr', hp'⟩
      have hI := N' _ (ho' _ (.head _))
      refine ⟨items.length + 1 - (i + 1), by omega, i + 1, c', h', tk', m', rfl, rfl, hlt, ⟨oI, hI.1, hcI, hdI⟩, F', fun p hp => N' p (hn' p hp), hq' _ (.head _), hfr, hk', hr', hp'⟩
    cases f with
    | ret v => exact h₆
    | brk => exact h₆
    | next => exact fin h₆
    | cont => exact fin h₆
/-- a while by an invariant over its letters, a measure, and a lower bound of the tokens -/
theorem while_T {σ : Type} {test : Expr} {body : List Stmt} {pos : Pos} {m₀ : Str → Option Value} (Led : σ → List (Addr × Obj)) (ps : σ → List (Str × Value)) (stored : List Str) (P : σ → Prop) (μ : σ → Nat) (c₀ : σ) (T0 : Nat) (hT : T0 ≤ s.toks)
    (F : Fr h₀ L s.heap m₀) (N : News h₀ L s.heap (Led c₀)) (hk : ∀ p ∈ ps c₀, m₀ p.1 = some p.2) (hP : P c₀)
    (turn : ∀ c (u : Str → Option Value) h tk, T0 ≤ tk → P c → Fr h₀ L h (kstB (fun z => if stored.contains z then u z else m₀ z) (ps c)) → News h₀ L h (Led c) →
      wpAny (model prog w) A (isTrue test env (eval test env)) (fun b s₂ =>
        if b = true then wpAny (model prog w) A (execs body env) (LPost h₀ L s Led ps stored m₀ [] (fun c' => P c' ∧ μ c' < μ c) Q) E s₂ else Q .next s₂) E { s with heap := h, toks := tk })
    (hE : PassesOwn (model prog w) A env E := by passes_own) :
    wpAny (model prog w) A (exec (.While test body [] pos) env) Q E s := by
  refine wpAny_While (codeAny_whileLoop (fun n s' => ∃ c h tk m₁, s' = { s with heap := h, toks := tk } ∧ n = μ c ∧ T0 ≤ tk ∧ Fr h₀ L h m₁ ∧ News h₀ L h (Led c) ∧ (∀ p ∈ ps c, m₁ p.1 = some p.2) ∧ (∀ z, (∀ p ∈ ps c, z ≠ p.1) → stored.contains z = false → m₁ z = m₀ z) ∧ P c) ?_ (μ c₀)
    ⟨c₀, s.heap, s.toks, m₀, rfl, rfl, hT, F, N, hk, fun _ _ _ => rfl, hP⟩)
  rintro n s' ⟨c, h, tk, m₁, rfl, rfl, htk, F₁, N₁, h1, h2, hP₁⟩
  refine wpAny_with_toks (n := T0) htk ?_
  refine wpAny_mono (turn c m₁ h tk htk hP₁ (ksw_fr h1 h2 F₁) N₁) (fun b s₂ h₂ htk₂ => ?_) fun e s₂ x _ => hE e s₂ x
  cases b with
  | false =>
    simp only [Bool.false_eq_true, if_false] at h₂ ⊢
    exact wpAny_execs_nil h₂
  | true =>
    simp only [if_true] at h₂ ⊢
    refine wpAny_with_toks (n := T0) htk₂ ?_
    refine wpAny_mono h₂ (fun f s₃ h₃ htk₃ => ?_) fun e s₂ x _ => hE e s₂ x
    have fin : LEnd h₀ L s Led ps stored m₀ [] (fun c' => P c' ∧ μ c' < μ c) s₃ → ∃ q, q < μ c ∧ ∃ c h tk m₁, s₃ = { s with heap := h, toks := tk } ∧ q = μ c ∧ T0 ≤ tk ∧ Fr h₀ L h m₁ ∧ News h₀ L h (Led c) ∧ (∀ p ∈ ps c, m₁ p.1 = some p.2) ∧ (∀ z, (∀ p ∈ ps c, z ≠ p.1) → stored.contains z = false → m₁ z = m₀ z) ∧ P c := by
      rintro ⟨c', h', tk', m', news', rfl, F', N', ho', hn', hq', hk', hr', hp'⟩
      exact ⟨μ c', hp'.2, c', h', tk', m', rfl, rfl, htk₃, F', fun p hp => N' p (hn' p hp), hk', hr', hp'.1⟩
    cases f with
    | ret v => exact h₃
    | brk => exact h₃
    | next => exact fin h₃
    | cont => exact fin h₃
/-- a block's statement, the tokens' lower bound handed on -/
theorem execs_pos {M : Model} {a : Stmt} {r : List Stmt} {T0 : Nat} (hT : T0 ≤ s.toks) (h : wpAny M A (exec a env) (fun f s' => T0 ≤ s'.toks → match f with | .next => wpAny M A (execs r env) Q E s' | f => Q f s') E s) : wpAny M A (execs (a :: r) env) Q E s :=
  wpAny_execs_cons (wpAny_with_toks hT (wpAny_mono h (fun _ _ x => x) fun _ _ x _ => x))
end

/-- what is claimed of a def at f, called with vs from any frame -/
abbrev Clm (w : World) (K : Frag) (p : Program) (loose : List Str) (mean : ExcName → Option Value) (mg mb : Str → Option Value) (prog : Program) (f : Addr) (news : List (Addr × Obj)) (vs : List Value) (Ret : Heap → Addr → (Str → Option Value) → Shared → (Value → Shared → Prop) → Prop) : Prop :=
  ∀ (dp un : Nat) (gd : Option (List Code)) (cn : Str) (cs : Scope) (a : Addr) (ccd : Value) (cl : List (Str × Addr)) (outer : List Env) (A₀ : Around) (base h₀ : Heap) (L : Addr) (m : Str → Option Value) (s : Shared) (Q E : Value → Shared → Prop),
    Below A₀ base outer h₀ → Fr h₀ L s.heap m → K.In h₀ → News h₀ L s.heap news → Top p loose mean mg mb h₀ → cs.kind = .function → dp + 20 < recursionLimit → un + 160 < cLine → Ret h₀ L m s Q →
      wpAny (model prog w) (ktrTop dp un gd cn cs L a ccd cl outer) (call (.ref f) vs) Q E s
/-- the same, called from the law's own frame -/
abbrev Clm0 (w : World) (K : Frag) (p : Program) (loose : List Str) (mean : ExcName → Option Value) (mg mb : Str → Option Value) (prog : Program) (f : Addr) (news : List (Addr × Obj)) (vs : List Value) (Ret : Heap → Addr → (Str → Option Value) → Shared → (Value → Shared → Prop) → Prop) : Prop :=
  ∀ (dp un : Nat) (gd : Option (List Code)) (cn : Str) (cs : Scope) (a : Addr) (ccd : Value) (A₀ : Around) (h₀ : Heap) (L : Addr) (m : Str → Option Value) (s : Shared) (Q E : Value → Shared → Prop),
    Below A₀ h₀ [] h₀ → Fr h₀ L s.heap m → K.In h₀ → News h₀ L s.heap news → Top p loose mean mg mb h₀ → cs.kind = .function → dp + 20 < recursionLimit → un + 160 < cLine → Ret h₀ L m s Q →
      wpAny (model prog w) (ktrTop dp un gd cn cs L a ccd [] []) (call (.ref f) vs) Q E s
/-- it hands back a value and leaves the ledger as it was -/
abbrev RetV (news : List (Addr × Obj)) (R : Tok → Value) (h₀ : Heap) (L : Addr) (m : Str → Option Value) (s : Shared) (Q : Value → Shared → Prop) : Prop :=
  ∀ (t : Tok) (h' : Heap) (tk' : Nat), Fr h₀ L h' m → News h₀ L h' news → Q (R t) { s with heap := h', toks := tk' }
def Hold (P : Prop) : Prop := P
theorem hold {P : Prop} (h : Hold P) : P := h
end Mine
end

-- part D0
section
open PySem PySem.W PyProof.Rows
namespace Mine
/-- a level, as it lies in the ledger: a text and a list of ints -/
def PairRel (news : List (Addr × Obj)) (a : List Nat × List Nat) (v1 v2 : Value) : Prop :=
  ∃ (x : Str) (tt : Tok) (c : Addr) (n : Nat) (cvs : List Value), v1 = .str x tt ∧ v2 = .ref c ∧ cl x = a.1 ∧ (c, listOf cvs.toArray n) ∈ news ∧ IntsAre cvs (a.2.map fun (k : Nat) => (k : Int))
def LevsIn (news : List (Addr × Obj)) (vs : List Value) (ls : List (List Nat × List Nat)) : Prop :=
  vs.length = ls.length ∧ ∀ (i : Nat) (a : List Nat × List Nat), ls[i]? = some a → ∃ (T : Addr) (v1 v2 : Value) (n' : Nat), vs[i]? = some (Value.ref T) ∧ (T, ({ cls := .type "tuple", data := .seq #[v1, v2] n' } : Obj)) ∈ news ∧ PairRel news a v1 v2
def WI (b : Nat) (ch : List Nat) (k : Int) : Prop := whole b ch = k.toNat + whole b (ch.drop k.toNat)
noncomputable def Duef (b a : Nat) (ls : List (List Nat × List Nat)) : Str := ⟨(due b a ls).toArray⟩
theorem wi_start {b : Nat} {ch : List Nat} {cvs : List Value} : (0 : Int) ≤ 0 ∧ (0 : Int) ≤ (cvs.length : Int) ∧ WI b ch 0 := ⟨Int.le_refl _, by omega, by simp [WI]⟩
theorem whole_at (b : Nat) : ∀ (ch : List Nat), whole b ch = match ch with | [] => 0 | n :: r => if n = 2 ^ b then whole b r + 1 else 0
  | [] => rfl
  | _ :: _ => rfl
theorem getD_at {ch : List Nat} {k : Int} (h0 : 0 ≤ k) (h1 : k < (((ch.map fun (n : Nat) => (n : Int)).length : Nat) : Int)) : ∃ n, ch[k.toNat]? = some n ∧ (ch.map fun (n : Nat) => (n : Int)).getD k.toNat 0 = (n : Int) ∧ ch.drop k.toNat = n :: ch.drop (k.toNat + 1) := by
  rw [List.length_map] at h1
  have hlt : k.toNat < ch.length := by omega
  refine ⟨ch[k.toNat], by simp, ?_, List.drop_eq_getElem_cons hlt⟩
  simp [List.getD_eq_getElem?_getD, List.getElem?_map, List.getElem?_eq_getElem hlt]
theorem size_is (b : Nat) : (1 : Int) * 2 ^ ((b : Int)).toNat = ((2 ^ b : Nat) : Int) := by
  rw [Int.one_mul, Int.toNat_natCast]
  push_cast
  rfl
theorem wi_step {b : Nat} {ch : List Nat} {cvs : List Value} {k : Int} (hl : cvs.length = (ch.map fun (n : Nat) => (n : Int)).length) (h0 : 0 ≤ k) (hw : WI b ch k) (h1 : k < (((ch.map fun (n : Nat) => (n : Int)).length : Nat) : Int)) (he : (ch.map fun (n : Nat) => (n : Int)).getD k.toNat 0 = 1 * 2 ^ ((b : Int)).toNat) :
    0 ≤ k + 1 ∧ k + 1 ≤ (cvs.length : Int) ∧ WI b ch (k + 1) := by
  obtain ⟨n, e1, e2, e3⟩ := getD_at h0 h1
  rw [e2, size_is] at he
  have he : n = 2 ^ b := by exact_mod_cast he
  refine ⟨by omega, by omega, ?_⟩
  unfold WI at hw ⊢
  rw [e3, whole_at b (n :: _)] at hw
  simp only [he, if_true] at hw
  rw [show (k + 1).toNat = k.toNat + 1 by omega]
  omega
theorem wi_end {b : Nat} {ch : List Nat} {k : Int} (h0 : 0 ≤ k) (hw : WI b ch k) (h1 : ¬ k < (((ch.map fun (n : Nat) => (n : Int)).length : Nat) : Int)) : k = (whole b ch : Nat) ∧ whole b ch = ch.length ∧ over b ch = 0 := by
  rw [List.length_map] at h1
  have hk : whole b ch = k.toNat := by
    unfold WI at hw
    rw [List.drop_eq_nil_of_le (by omega)] at hw
    exact hw
  have := whole_le b ch
  refine ⟨by omega, by omega, ?_⟩
  unfold over
  rw [List.getElem?_eq_none (by omega)]
theorem wi_brk {b : Nat} {ch : List Nat} {k : Int} (h0 : 0 ≤ k) (hw : WI b ch k) (h1 : k < (((ch.map fun (n : Nat) => (n : Int)).length : Nat) : Int)) (he : ¬ (ch.map fun (n : Nat) => (n : Int)).getD k.toNat 0 = 1 * 2 ^ ((b : Int)).toNat) :
    k = (whole b ch : Nat) ∧ whole b ch < ch.length ∧ over b ch = if (ch.map fun (n : Nat) => (n : Int)).getD k.toNat 0 > 1 * 2 ^ ((b : Int)).toNat then 1 else 0 := by
  obtain ⟨n, e1, e2, e3⟩ := getD_at h0 h1
  rw [List.length_map] at h1
  rw [e2, size_is] at he
  have he : n ≠ 2 ^ b := fun q => he (by rw [q])
  have hk : whole b ch = k.toNat := by
    unfold WI at hw
    rw [e3, whole_at b (n :: _)] at hw
    simp only [he, if_false] at hw
    exact hw
  refine ⟨by omega, by omega, ?_⟩
  unfold over
  rw [hk, e1, e2, size_is]
  simp only [gt_iff_lt, Int.ofNat_lt]
def Qs (n : Nat) : Str := ⟨(List.replicate n 34).toArray⟩
theorem len_Qs (n : Nat) : (Qs n).length = n := by simp [Qs, Str.length]
theorem mul_q (n : Nat) : Txt.mul (Str.ofString "\"") (n : Int) = Qs n := by
  rw [q_is]
  unfold Txt.mul Qs
  by_cases h : (n : Int) < 1
  · have : n = 0 := by omega
    subst this
    rfl
  · rw [if_neg h]
    by_cases h1 : n = 1
    · subst h1
      rfl
    · have hc : ¬ (((n : Int) == 1 || (Str.mk #[34]).length == 0) = true) := by
        have : ¬ ((n : Int) = 1) := by omega
        simp [Str.length, this]
      rw [if_neg hc]
      refine Str.ext' ?_
      show (List.replicate ((n : Int).toNat) (#[34] : Array Nat)).foldl (· ++ ·) #[] = (List.replicate n 34).toArray
      rw [Int.toNat_natCast]
      have : ∀ (k : Nat) (acc : Array Nat), (List.replicate k (#[34] : Array Nat)).foldl (· ++ ·) acc = acc ++ (List.replicate k 34).toArray := by
        intro k
        induction k with
        | zero => intro acc; simp
        | succ k ih =>
          intro acc
          rw [List.replicate_succ, List.foldl_cons, ih]
          apply Array.toList_inj.mp
          simp [List.replicate_succ]
      rw [this]
      simp
theorem mul_shift {prog : Program} {w : World} {A : Around} {E Q : Value → Shared → Prop} {s : Shared} {t u : Tok} {v : Int} {a : Nat} (h0 : 0 ≤ v) (h1 : v ≤ 2000)
    (h : ∀ t' k, (Qs (v.toNat / 2 ^ a)).length ≤ 2000 → Q (.str (Qs (v.toNat / 2 ^ a)) t') { s with toks := k }) :
    wpAny (model prog w) A (binaryOp .Mult (.str (Str.ofString "\"") t) (.int (v.fdiv (2 ^ ((a : Int)).toNat)) u)) Q E s := by
  have e : v.fdiv (2 ^ ((a : Int)).toNat) = ((v.toNat / 2 ^ a : Nat) : Int) := by
    obtain ⟨n, rfl⟩ := Int.eq_ofNat_of_zero_le h0
    rw [Int.toNat_natCast, Int.toNat_natCast, Int.fdiv_eq_ediv_of_nonneg _ (Int.le_of_lt (Int.pow_pos (by decide)))]
    push_cast
    rfl
  have hb : v.toNat / 2 ^ a ≤ 2000 := Nat.le_trans (Nat.div_le_self _ _) (by omega)
  rw [e]
  generalize v.toNat / 2 ^ a = q at *
  refine KXi.mul (n := 1) (by rw [q_is]; rfl) (by decide) (by omega) (by omega) fun t' k _ _ => ?_
  rw [mul_q]
  exact h t' k (by rw [len_Qs]; exact hb)
theorem cl_Qs (n : Nat) : cl (Qs n) = List.replicate n 34 := by simp [Qs, cl]
theorem due_ret {b a : Nat} {told ch : List Nat} {rest ls : List (List Nat × List Nat)} {du x : Str} {M : Nat} (hP : cl du ++ due b a ((told, ch) :: rest) = due b a ls) (hx : cl x = told) (he : ends b a ch) (hm : M = marks b ch) :
    du ++ (x ++ Qs (M / 2 ^ a)) = Duef b a ls := by
  refine str_ext ?_
  show _ = due b a ls
  rw [← hP, cl_append, cl_append, cl_Qs, hx, hm]
  simp only [due, if_pos he, List.append_nil]
theorem due_go {b a : Nat} {told ch : List Nat} {rest ls : List (List Nat × List Nat)} {du x : Str} {M : Nat} (hP : cl du ++ due b a ((told, ch) :: rest) = due b a ls) (hx : cl x = told) (he : ¬ ends b a ch) (hm : M = marks b ch) :
    cl (du ++ (x ++ Qs (M / 2 ^ a))) ++ due b a rest = due b a ls := by
  rw [← hP, cl_append, cl_append, cl_Qs, hx, hm]
  simp only [due, if_neg he, List.append_assoc]
section
variable {b a : Nat} {told ch : List Nat} {rest ls : List (List Nat × List Nat)} {du x : Str} {k : Int}
theorem due_e1 (hP : cl du ++ due b a ((told, ch) :: rest) = due b a ls) (hx : cl x = told) (h0 : 0 ≤ k) (hw : WI b ch k) (h1 : k < (((ch.map fun (n : Nat) => (n : Int)).length : Nat) : Int)) (he : ¬ (ch.map fun (n : Nat) => (n : Int)).getD k.toNat 0 = 1 * 2 ^ ((b : Int)).toNat)
    (hg : 1 * 2 ^ ((b : Int)).toNat < (ch.map fun (n : Nat) => (n : Int)).getD k.toNat 0) : du ++ (x ++ Qs ((k + 1).toNat / 2 ^ a)) = Duef b a ls := by
  obtain ⟨e1, e2, e3⟩ := wi_brk h0 hw h1 he
  rw [if_pos hg] at e3
  exact due_ret hP hx (.inr (.inl e2)) (by unfold marks; omega)
theorem due_e2 (hP : cl du ++ due b a ((told, ch) :: rest) = due b a ls) (hx : cl x = told) (h0 : 0 ≤ k) (hw : WI b ch k) (h1 : k < (((ch.map fun (n : Nat) => (n : Int)).length : Nat) : Int)) (he : ¬ (ch.map fun (n : Nat) => (n : Int)).getD k.toNat 0 = 1 * 2 ^ ((b : Int)).toNat)
    (hg : ¬ 1 * 2 ^ ((b : Int)).toNat < (ch.map fun (n : Nat) => (n : Int)).getD k.toNat 0) : du ++ (x ++ Qs (k.toNat / 2 ^ a)) = Duef b a ls := by
  obtain ⟨e1, e2, e3⟩ := wi_brk h0 hw h1 he
  rw [if_neg hg] at e3
  exact due_ret hP hx (.inr (.inl e2)) (by unfold marks; omega)
theorem due_e3 (hP : cl du ++ due b a ((told, ch) :: rest) = due b a ls) (hx : cl x = told) (h0 : 0 ≤ k) (hw : WI b ch k) (h1 : ¬ k < (((ch.map fun (n : Nat) => (n : Int)).length : Nat) : Int)) (he : decide ((ch.map fun (n : Nat) => (n : Int)) = []) = true) : du ++ (x ++ Qs (k.toNat / 2 ^ a)) = Duef b a ls := by
  obtain ⟨e1, e2, e3⟩ := wi_end h0 hw h1
  exact due_ret hP hx (.inl (by simpa using he)) (by unfold marks; omega)
theorem fmod_is (h0 : 0 ≤ k) : k.fmod (1 * 2 ^ ((a : Int)).toNat) = ((k.toNat % 2 ^ a : Nat) : Int) := by
  obtain ⟨n, rfl⟩ := Int.eq_ofNat_of_zero_le h0
  rw [size_is, Int.fmod_eq_emod_of_nonneg _ (Int.natCast_nonneg _)]
  push_cast
  rfl
theorem due_e4 (hP : cl du ++ due b a ((told, ch) :: rest) = due b a ls) (hx : cl x = told) (h0 : 0 ≤ k) (hw : WI b ch k) (h1 : ¬ k < (((ch.map fun (n : Nat) => (n : Int)).length : Nat) : Int)) (he : k.fmod (1 * 2 ^ ((a : Int)).toNat) ≠ 0) : du ++ (x ++ Qs (k.toNat / 2 ^ a)) = Duef b a ls := by
  obtain ⟨e1, e2, e3⟩ := wi_end h0 hw h1
  have hm : k.toNat = marks b ch := by unfold marks; omega
  rw [fmod_is h0, hm] at he
  exact due_ret hP hx (.inr (.inr (by omega))) hm
theorem due_e5 (hP : cl du ++ due b a ((told, ch) :: rest) = due b a ls) (hx : cl x = told) (h0 : 0 ≤ k) (hw : WI b ch k) (h1 : ¬ k < (((ch.map fun (n : Nat) => (n : Int)).length : Nat) : Int)) (hc : decide ((ch.map fun (n : Nat) => (n : Int)) = []) = false) (he : k.fmod (1 * 2 ^ ((a : Int)).toNat) = 0) :
    cl (du ++ (x ++ Qs (k.toNat / 2 ^ a))) ++ due b a rest = due b a ls := by
  obtain ⟨e1, e2, e3⟩ := wi_end h0 hw h1
  have hm : k.toNat = marks b ch := by unfold marks; omega
  rw [fmod_is h0, hm] at he
  refine due_go hP hx ?_ hm
  rintro (q | q | q)
  · simp [q] at hc
  · omega
  · omega
end
end Mine
end

-- part Lc
section
open PySem PySem.W PyProof.Rows Builtin Builtin.Str
set_option maxRecDepth 100000
namespace Mine
section
variable {prog : Program} {w : World} {A : Around} {E : Value → Shared → Prop} {s : Shared} {env : Env} {h₀ : Heap} {L : Addr} {m : Str → Option Value} {news : List (Addr × Obj)}
/-- x.replace(y, z), y and z written texts -/
theorem call_replace {o : Expr} {y z : Str} {k1 k2 : Nat} {p1 p2 apos pos : Pos} {x : Str} {t : Tok} {Q : Value → Shared → Prop}
    (hbase : attributeBase o (Str.ofString "replace") env (eval o env) = eval o env) (hline : (apos.endLine == pos.line) = true) (hyz : (y == z) = false) (hb : x.length ≤ 1048576) (hz : z.length ≤ 14) (ht : 1 ≤ s.toks)
    (h : wpAny (model prog w) A (eval o env) (fun ov s₁ => ov = .str x t ∧ s₁ = s) E s) (hQ : ∀ t' k, Q (.str (Txt.replace x y z) t') { s with toks := k }) :
    wpAny (model prog w) A (eval (.Call (.Attribute o (Str.ofString "replace") apos) [.Constant (.str y) k1 p1, .Constant (.str z) k2 p2] [] pos) env) Q E s := by
  refine Call_method2 hbase rfl hline (wpAny_mono h (fun ov s₁ h₁ => ?_) fun _ _ e => e)
  obtain ⟨rfl, rfl⟩ := h₁
  have hb2 : x.length + (x.length + 1) * z.length ≤ 16777216 := by
    have h1 : (x.length + 1) * z.length ≤ (x.length + 1) * 14 := Nat.mul_le_mul_left _ hz
    omega
  have hl : tooLong (x.length + (occurrences x y 0 x.length (x.length + 1)).length * z.length) = false := by
    have h1 := StrLaws.occ_length_le x y 0 x.length (x.length + 1)
    have h2 : (occurrences x y 0 x.length (x.length + 1)).length * z.length ≤ (x.length + 1) * z.length := Nat.mul_le_mul_right _ h1
    have e : (2 : Nat) ^ 24 = 16777216 := by decide
    unfold tooLong sizeLine
    exact decide_eq_false (by omega)
  refine ⟨"str", "str.replace", F.plainAttrs_str, F.slot_str_replace, F.type_str_replace, typeIs_str _ _ _, (fun _ e => nomatch e), ?_⟩
  refine method_gives F.slot_str_replace F.entry_str_replace rfl (Calls.evalArgs_plain (Calls.spliced_cons (Calls.Constant_str (Calls.spliced_cons (Calls.Constant_str (Calls.spliced_nil ⟨rfl, typeIs_str _ _ _, F.args_str_replace_3 _ _ _, _, gives_str_replace x y z t s₁.toks (s₁.toks + 1) fun _ => ⟨?_, ?_, hyz, hl⟩, ?_⟩))))))
  · have : s₁.toks ≠ 0 := by omega
    simp [this]
  · simp
  · have hq' := hQ
    unfold Txt.replace at hq'
    cases hc : ((occurrences x y 0 x.length (x.length + 1)).isEmpty || (y.length == 0 && z.length == 0))
    · rw [hc] at hq'
      simp only [Bool.false_eq_true, if_false] at hq' ⊢
      exact ⟨fits_replaced y hb2, hq' _ _⟩
    · rw [hc] at hq'
      simp only [if_true] at hq' ⊢
      exact hq' t _
theorem paired_strs {l : List (Str × Tok)} {f : Str → Str} : ∀ {ys : List Value}, Paired (fun v y => ∀ x t, v = Value.str x t → ∃ t', y = Value.str (f x) t') (strValues l) ys → ∃ l', ys = strValues l' ∧ l'.map (·.1) = l.map fun p => f p.1 := by
  induction l with
  | nil =>
    intro ys h
    cases h
    exact ⟨[], rfl, rfl⟩
  | cons p l ih =>
    intro ys h
    cases h with
    | cons h1 h2 =>
      obtain ⟨t', rfl⟩ := h1 _ _ rfl
      obtain ⟨l', rfl, e⟩ := ih h2
      exact ⟨(f p.1, t') :: l', rfl, by simp [e]⟩
/-- [elt for x in l], l a list of texts, elt a text's text -/
theorem ListComp_strs {elt iter : Expr} {x : Str} {px : Pos} {scope : Scope} {pos : Pos} {Q : Value → Shared → Prop} {l : List (Str × Tok)} {D0 : Addr} (f : Str → Str)
    (hh : A.handled = none) (hfree : ∀ y ∈ scope.names, y.2 ≠ .free) (hcell : ∀ y ∈ scope.names, y.2 ≠ .cell) (hkind : scope.kind = .function)
    (hnames : ∀ y ∈ scope.names, y.2 = .local → scope.names.lookup y.1 = some .local) (hx : scope.names.lookup x = some .local)
    (he : wpAny (model prog w) A (eval iter env) (fun v s₁ => v = Value.ref D0 ∧ s₁ = s) E s)
    (F : Fr h₀ L s.heap m) (N : News h₀ L s.heap news) (hl : s.heap.IsList D0 (strValues l).toArray) (hsz : l.length ≤ sizeLine)
    (helt : ∀ C y u s₃ m₃ E', (y, u) ∈ l → s₃.heap.Ns C m₃ → m₃ x = some (.str y u) → s.toks ≤ s₃.toks → wpAny (model prog w) A (eval elt (compEnv scope C env)) (fun r s₄ => (∃ t', r = Value.str (f y) t') ∧ Keeps s₃ s₄) E' s₃)
    (hQ : ∀ D l' n h' tk, l'.map (·.1) = l.map (fun p => f p.1) → Fr h₀ L h' m → News h₀ L h' ((D, listOf (strValues l').toArray n) :: news) → (∀ p ∈ news, p.1 ≠ D) → Q (.ref D) { s with heap := h', toks := tk })
    (hs : ∀ x, foldedSetIterable iter env x = pure x := by intro _; rfl) :
    wpAny (model prog w) A (eval (.ListComp elt [⟨.Name x px, iter, [], 0⟩] scope pos) env) Q E s := by
  refine wpAny_ListComp_walk (fun _ => true) (fun v y => ∀ x t, v = Value.str x t → ∃ t', y = Value.str (f x) t') hfree hcell hkind hnames hx (wpAny_mono he (fun xv s₁ h₁ => ?_) fun _ _ e => e) hs
  obtain ⟨rfl, rfl⟩ := h₁
  refine wpAny_pyIter_list hl ?_
  have hD0 : D0 < s₁.heap.objs.size := by
    obtain ⟨o, ho, _⟩ := hl
    exact Heap.lt_size ho
  have up : ∀ (O : Obj) (h' : Heap), (∀ b o', b ∉ [s₁.heap.objs.size] → (s₁.heap.push O).get? b = some o' → h'.get? b = some o') → ∀ b o', s₁.heap.get? b = some o' → h'.get? b = some o' :=
    fun O h' hk b o' e => hk b o' (old_not_new e) (Heap.get?_push_of_some _ e)
  refine ⟨s₁.heap.objs.size, [s₁.heap.objs.size, D0], [s₁.heap.objs.size], (strValues l).toArray.size, fun i v => (strValues l).toArray[i]? = some v, fun i h => h.IsListIter s₁.heap.objs.size D0 i ∧ h.IsList D0 (strValues l).toArray, rfl, Walks.list hh s₁.heap.objs.size D0 (Nat.ne_of_lt hD0).symm.symm (strValues l).toArray, ?_, ⟨⟨_, Heap.get?_push_size _ rfl, rfl, rfl⟩, (let ⟨o, ho, r⟩ := hl; ⟨o, Heap.get?_push_of_some _ ho, r⟩)⟩, ?_, ⟨?_, ?_⟩, ?_⟩
  · simpa [strValues] using hsz
  · intro b hb
    simp only [Heap.size_push]
    rcases List.mem_cons.mp hb with rfl | hb
    · exact Nat.lt_succ_self _
    · rw [List.mem_singleton.mp hb]; exact Nat.lt_succ_of_lt hD0
  · intro C i v s₃ m₃ E' _ _ _ _ _
    exact wpAny_pure ⟨rfl, _, _, rfl, fun _ _ e => e⟩
  · intro C i v s₃ m₃ E' hv _ hn hm _ htk
    have hv' : l[i]?.map (fun p => Value.str p.1 p.2) = some v := by simpa [strValues] using hv
    cases hi : l[i]? with
    | none => rw [hi] at hv'; cases hv'
    | some p =>
      rw [hi] at hv'
      obtain rfl : Value.str p.1 p.2 = v := by simpa using hv'
      refine wpAny_mono (helt C p.1 p.2 s₃ m₃ E' (List.mem_of_getElem? hi) hn hm htk) (fun r s₄ h₄ => ⟨?_, h₄.2⟩) fun _ _ e => e
      intro x' t' e
      cases e
      exact h₄.1
  · intro D h' tk ys vs hD hlD hplD hlen hP hF hk
    have hvs : vs = strValues l := by
      have hl1 : vs.length = (strValues l).length := by simpa using hlen
      refine List.ext_getElem? fun j => ?_
      by_cases hj : j < vs.length
      · have h1 := hP j vs[j] (by simp)
        rw [List.getElem?_eq_getElem hj]
        simpa using h1.symm
      · rw [List.getElem?_eq_none (by omega), List.getElem?_eq_none (by omega)]
    rw [hvs, List.filter_eq_self.mpr (by simp)] at hF
    obtain ⟨l', e1, e2⟩ := paired_strs hF
    obtain ⟨n, hpn⟩ := hplD
    have hne : ∀ b o, s₁.heap.get? b = some o → b ≠ D := fun b o e q => by
      have h1 := Heap.get?_push_of_some ({ cls := .type "list_iterator", dict := none, data := .fields #[.ref D0, rawInt 0] } : Obj) e
      rw [q] at h1
      have h2 : (s₁.heap.push ({ cls := .type "list_iterator", dict := none, data := .fields #[.ref D0, rawInt 0] } : Obj)).get? D = none := hD
      rw [h1] at h2
      cases h2
    refine hQ D l' n h' tk e2 ⟨F.ns.at' fun o e => up _ h' hk _ o e, fun b o e => up _ h' hk b o (F.keep b o e), F.above⟩ (fun p hp => ?_) fun p hp => hne _ _ (N p hp).1
    rcases List.mem_cons.mp hp with rfl | hp
    · refine ⟨?_, ?_, ?_⟩
      · rw [hpn]
        have : ys = (strValues l').toArray := by rw [← e1]
        rw [this]
      · intro q
        subst q
        obtain ⟨o, _, _, ho, _⟩ := F.ns
        exact hne _ _ ho rfl
      · cases e : h₀.get? D with
        | none => rfl
        | some o => exact absurd rfl (hne _ _ (F.keep _ _ e))
    · exact ⟨up _ h' hk _ _ (N p hp).1, (N p hp).2⟩
end
end Mine
end

-- part En
section
open PySem PySem.W PyProof.Rows PySem.Spec
open AutoSeq1 (wpAny_loadPart')
set_option maxRecDepth 100000
namespace Mine
abbrev asciiIt (x : Str) (t : Tok) (i : Nat) : Obj := { cls := .type "str_ascii_iterator", data := .fields #[.str x t, .int i 0] }
set_option maxHeartbeats 4000000 in
/-- enumerate over a text of ascii signs -/
theorem meets_enum_str (x : Str) (t : Tok) (ha : x.cps.all (· < 128) = true) :
    Meets (Builtin.«enumerate.__new__» ⟨[.type "enumerate", .str x t], []⟩) (fun _ R s =>
      R (.ok (.ret (.ref (s.heap.push (asciiIt x t 0)).objs.size)))
        { s with heap := (s.heap.push (asciiIt x t 0)).push { cls := .type "enumerate", data := .fields #[.none, .bool false, .ref s.heap.objs.size, rawInt 0, .none, .none] } }) :=
  .of_wp fun prog w A R s h => by
    obtain ⟨hp, g, d, tk, os⟩ := s
    have hsub := sub_enumerate
    wp_walk
    refine wpAny_stack_any fun st => wpAny_pure ?_
    split
    · rename_i c _ _ _ _ _
      cases (c == Value.type "enumerate")
      · wp_walk using wpAny_pyIter_ascii ha
        exact ⟨_, rfl, h⟩
      · wp_walk using wpAny_pyIter_ascii ha
        exact ⟨_, rfl, h⟩
    · wp_walk using wpAny_pyIter_ascii ha
      exact ⟨_, rfl, h⟩
section
variable {prog : Program} {w : World} {A : Around} {E : Value → Shared → Prop} {s : Shared}
theorem call_enum_str {x : Str} {t : Tok} {Q : Value → Shared → Prop} (ha : x.cps.all (· < 128) = true)
    (h : ∀ h', IsEnum h' (s.heap.objs.size + 1) s.heap.objs.size 0 .none → h'.IsStrIter s.heap.objs.size "str_ascii_iterator" x t 0 → h'.objs.size = s.heap.objs.size + 2 →
      (∀ b o, s.heap.get? b = some o → h'.get? b = some o) → Q (.ref (s.heap.objs.size + 1)) { s with heap := h' }) :
    wpAny (model prog w) A (call (.type "enumerate") [.str x t]) Q E s := by
  refine callType_new F.called_enumerate (by decide) (F.typeCall_enumerate_1 _) (F.newCall_enumerate_1 _) (fun obj => F.args_object_init_2 obj _) F.entry_enumerate_new
    (meets_enum_str x t ha) ?_
  have hz : (s.heap.push (asciiIt x t 0)).objs.size = s.heap.objs.size + 1 := Heap.size_push ..
  have he : IsEnum ((s.heap.push (asciiIt x t 0)).push
      { cls := .type "enumerate", data := .fields #[.none, .bool false, .ref s.heap.objs.size, rawInt 0, .none, .none] }) (s.heap.objs.size + 1) s.heap.objs.size 0 .none := by
    have := Heap.get?_push_size (s.heap.push (asciiIt x t 0))
      (o := { cls := .type "enumerate", data := .fields #[.none, .bool false, .ref s.heap.objs.size, rawInt 0, .none, .none] }) rfl
    rw [hz] at this; exact this
  show _ ∧ _
  rw [hz]
  exact ⟨⟨_, he, rfl⟩, h _ he ⟨_, Heap.get?_push_of_some _ (Heap.get?_push_size _ rfl), rfl, rfl⟩ (by rw [Heap.size_push, hz]) fun b o x => Heap.get?_push_of_some _ (Heap.get?_push_of_some _ x)⟩

theorem nextOf_item {it : Addr} {x : Str} {t : Tok} {i c : Nat} {Q : Value → Shared → Prop} (hit : s.heap.IsStrIter it "str_ascii_iterator" x t i) (hx : x.cps[i]? = some c)
    (hQ : ∀ h', h'.IsStrIter it "str_ascii_iterator" x t (i + 1) → Heap.SameBut it s.heap h' → Q (.str ⟨#[c]⟩ s.toks) { s with heap := h', toks := s.toks + 1 }) :
    wpAny (model prog w) A (Builtin.SmallTypes.nextOf (.ref it)) Q E s := by
  obtain ⟨o, ho, hc, hd⟩ := id hit
  unfold Builtin.SmallTypes.nextOf
  refine wpAny_bind (wpAny_callSpecial?_slot (name := Str.ofString "__next__") hit.typeIs F.slot_str_ascii_iterator_next
    (wpAny_call_entry F.slot_str_ascii_iterator_next hit.typeIs F.entry_str_ascii_iterator_next ?_ (F.args_str_ascii_iterator_next_1 _)))
  show wpAny _ _ (field (.ref it) 0 >>= _) _ _ s
  refine wpAny_bind (wpAny_field ho hd (x := .str x t) rfl ?_)
  show wpAny _ _ (field (.ref it) 1 >>= _) _ _ s
  refine wpAny_bind (wpAny_field ho hd (x := .int i 0) rfl ?_)
  simp only [Int.toNat_natCast, hx]
  refine wpAny_bind (wpAny_setField ho hd (by simp) (wpAny_bind (wpAny_mkStr (wpAny_pure ⟨_, rfl, wpAny_pure (hQ _ ?_ (Heap.SameBut.update ..))⟩) (by show 1 ≤ sizeLine; decide))))
  exact ⟨_, Heap.get?_update_self _ ho (Obj.isFreed_of_fields (Obj.data_mapFields hd _)), (Obj.cls_mapFields ..).trans hc, by
    rw [Obj.data_mapFields hd]; simp [rawInt]⟩

theorem nextOf_end {it : Addr} {x : Str} {t : Tok} {i : Nat} {Q : Value → Shared → Prop} (hh : A.handled = none)
    (hit : s.heap.IsStrIter it "str_ascii_iterator" x t i) (hx : x.cps[i]? = none)
    (hE : ∀ h' e, Heap.ExtBut it s.heap h' → (∃ o, h'.get? e = some o ∧ o.cls = .type "StopIteration") → E (.ref e) { s with heap := h' }) :
    wpAny (model prog w) A (Builtin.SmallTypes.nextOf (.ref it)) Q E s := by
  obtain ⟨o, ho, hc, hd⟩ := id hit
  unfold Builtin.SmallTypes.nextOf
  refine wpAny_bind (wpAny_callSpecial?_slot (name := Str.ofString "__next__") hit.typeIs F.slot_str_ascii_iterator_next
    (wpAny_call_entry F.slot_str_ascii_iterator_next hit.typeIs F.entry_str_ascii_iterator_next ?_ (F.args_str_ascii_iterator_next_1 _)))
  show wpAny _ _ (field (.ref it) 0 >>= _) _ _ s
  refine wpAny_bind (wpAny_field ho hd (x := .str x t) rfl ?_)
  show wpAny _ _ (field (.ref it) 1 >>= _) _ _ s
  refine wpAny_bind (wpAny_field ho hd (x := .int i 0) rfl ?_)
  simp only [Int.toNat_natCast, hx]
  refine wpAny_bind (wpAny_rule (wpAny_bind (wpAny_setField ho hd (by simp) (wpAny_bind (wpAny_letGo ?_)))))
  show wpAny _ _ (newExc (.type "StopIteration") [] >>= _) _ _ _
  refine wpAny_bind ?_
  simp only [newExc, newTuple]
  refine wpAny_bind (wpAny_newObj_type ?_ (by size_fits))
  refine wpAny_bind (m := firstArgMember _ _) (wpAny_of_eq (a := Value.none) (by first | rfl | (simp only [firstArgMember]; rfl)) ?_)
  refine wpAny_newObj_type ?_ (by size_fits)
  simp only [raiseNew]
  refine wpAny_bind (wpAny_handled ?_)
  first | rw [show A.in1.handled = none from hh] | rw [hh]
  refine wpAny_bind (wpAny_pure (wpAny_throw ?_))
  exact hE _ _ (((Heap.SameBut.update ..).extBut.push _).push _) ⟨_, Heap.get?_push_size _ rfl, rfl⟩

theorem enum_next_item {e it : Addr} {x : Str} {t : Tok} {i c : Nat} {old : Value} {Q : Option Value → Shared → Prop}
    (he : IsEnum s.heap e it i old) (hit : s.heap.IsStrIter it "str_ascii_iterator" x t i) (hx : x.cps[i]? = some c) (hne : e ≠ it)
    (hQ : ∀ h', IsEnumOut h' e it ((i : Int) + 1) (.str ⟨#[c]⟩ s.toks) s.heap.objs.size → h'.IsStrIter it "str_ascii_iterator" x t (i + 1) →
      h'.get? s.heap.objs.size = some { cls := .type "tuple", data := .seq #[.int i (s.toks + 1), .str ⟨#[c]⟩ s.toks] } → h'.objs.size = s.heap.objs.size + 1 →
      (∀ b o, b ≠ e → b ≠ it → s.heap.get? b = some o → h'.get? b = some o) → Q (some (.ref s.heap.objs.size)) { s with heap := h', toks := s.toks + 1 + 1 }) :
    wpAny (model prog w) A (pyNext (.ref e)) Q E s := by
  have hT : s.TypeIs (.ref e) "enumerate" := ⟨_, he, rfl⟩
  unfold pyNext
  refine wpAny_bind (wpAny_attempt (wpAny_callSpecial?_slot (name := Str.ofString "__next__") hT F.slot_enumerate_next
    (wpAny_call_entry F.slot_enumerate_next hT F.entry_enumerate_next ?_ (F.args_enumerate_next_1 _))))
  obtain ⟨hp, g, d, tk, os⟩ := s
  show wpAny _ _ (field (.ref e) 2 >>= _) _ _ _
  refine wpAny_bind (wpAny_field he rfl (x := .ref it) rfl ?_)
  refine wpAny_bind (nextOf_item hit hx fun h₁ hit₁ hs₁ => ?_)
  replace hs₁ : Heap.SameBut it hp h₁ := hs₁
  have he₁ : IsEnum h₁ e it i old := (hs₁.2 e hne).trans he
  generalize hv : (Value.str ⟨#[c]⟩ tk) = v
  show wpAny _ _ (field (.ref e) 3 >>= _) _ _ ⟨h₁, g, d, tk + 1, os⟩
  refine wpAny_bind (wpAny_field he₁ rfl (x := rawInt i) rfl ?_)
  show wpAny _ _ (field (.ref e) 4 >>= _) _ _ ⟨h₁, g, d, tk + 1, os⟩
  refine wpAny_bind (wpAny_field he₁ rfl (x := .none) rfl ?_)
  show wpAny _ _ (mkInt i >>= _) _ _ ⟨h₁, g, d, tk + 1, os⟩
  refine wpAny_bind (wpAny_mkInt ?_)
  show wpAny _ _ (setField (.ref e) 3 (rawInt ((i : Int) + 1)) >>= _) _ _ ⟨h₁, g, d, tk + 1 + 1, os⟩
  refine wpAny_bind (wpAny_setField_rec he₁ (by simp) fun h₂ he₂ hs₂ => ?_)
  replace hs₂ : Heap.SameBut e h₁ h₂ := hs₂
  replace he₂ : IsEnum h₂ e it ((i : Int) + 1) old := he₂
  show wpAny _ _ (setField (.ref e) 4 .none >>= _) _ _ ⟨h₂, g, d, tk + 1 + 1, os⟩
  refine wpAny_bind (wpAny_setField_rec he₂ (by simp) fun h₃ he₃ hs₃ => ?_)
  replace hs₃ : Heap.SameBut e h₂ h₃ := hs₃
  replace he₃ : IsEnum h₃ e it ((i : Int) + 1) old := he₃
  show wpAny _ _ (newTuple [.int i (tk + 1), v] >>= _) _ _ ⟨h₃, g, d, tk + 1 + 1, os⟩
  refine wpAny_bind (wpAny_newTuple ?_)
  have he₄ : IsEnum (h₃.push { cls := .type "tuple", data := .seq #[.int i (tk + 1), v] }) e it ((i : Int) + 1) old := Heap.get?_push_of_some _ he₃
  generalize hh₄ : h₃.push { cls := .type "tuple", data := .seq #[.int i (tk + 1), v] } = h₄ at he₄
  have hsz : h₃.objs.size = hp.objs.size := by rw [hs₃.1, hs₂.1, hs₁.1]
  have hel : e < hp.objs.size := Heap.lt_size he
  have ht₄ : h₄.get? hp.objs.size = some { cls := .type "tuple", data := .seq #[.int i (tk + 1), v] } := by rw [← hh₄, ← hsz]; exact Heap.get?_push_size _ rfl
  have hz₄ : h₄.objs.size = hp.objs.size + 1 := by rw [← hh₄, Heap.size_push, hsz]
  have hk₄ : ∀ b o, b ≠ e → b ≠ it → hp.get? b = some o → h₄.get? b = some o := fun b o hbe hbi hb => by
    rw [← hh₄]; exact Heap.get?_push_of_some _ (hs₃.extBut b o hbe (hs₂.extBut b o hbe (hs₁.extBut b o hbi hb)))
  have hit₄ : h₄.IsStrIter it "str_ascii_iterator" x t (i + 1) := by
    rw [← hh₄]; obtain ⟨o, ho, r⟩ := (hit₁.extBut hs₂.extBut (Ne.symm hne)).extBut hs₃.extBut (Ne.symm hne); exact ⟨o, Heap.get?_push_of_some _ ho, r⟩
  show wpAny _ _ (Builtin.SmallTypes.ownedTupleIsFree (.ref e) >>= _) _ _ ⟨h₄, g, d, tk + 1 + 1, os⟩
  rw [hsz]
  refine wpAny_bind ?_
  unfold Builtin.SmallTypes.ownedTupleIsFree
  refine wpAny_bind (wpAny_field he₄ rfl (x := .none) rfl (wpAny_pure ?_))
  simp only [if_true]
  refine wpAny_bind (wpAny_rule ?_)
  refine wpAny_bind (wpAny_field he₄ rfl (x := old) rfl ?_)
  refine wpAny_bind (wpAny_setField_rec he₄ (by simp) fun h₅ he₅ hs₅ => ?_)
  replace hs₅ : Heap.SameBut e h₄ h₅ := hs₅
  replace he₅ : IsEnum h₅ e it ((i : Int) + 1) v := he₅
  show wpAny _ _ (Builtin.SmallTypes.ownedTupleHandOut (.ref e) (.ref hp.objs.size) >>= _) _ _ ⟨h₅, g, d, tk + 1 + 1, os⟩
  refine wpAny_bind ?_
  unfold Builtin.SmallTypes.ownedTupleHandOut
  refine wpAny_bind (wpAny_setField_rec he₅ (by simp) fun h₆ he₆ hs₆ => ?_)
  replace hs₆ : Heap.SameBut e h₅ h₆ := hs₆
  replace he₆ : IsEnumOut h₆ e it ((i : Int) + 1) v hp.objs.size := he₆
  refine wpAny_setField_rec he₆ (by simp) fun h₇ he₇ hs₇ => ?_
  replace hs₇ : Heap.SameBut e h₆ h₇ := hs₇
  replace he₇ : IsEnumOut h₇ e it ((i : Int) + 1) v hp.objs.size := he₇
  subst hv
  refine wpAny_bind (wpAny_letGo (wpAny_pure ⟨_, rfl, wpAny_pure (hQ h₇ he₇ ?_ ?_ ?_ ?_)⟩))
  · exact ((hit₄.extBut hs₅.extBut (Ne.symm hne)).extBut hs₆.extBut (Ne.symm hne)).extBut hs₇.extBut (Ne.symm hne)
  · exact hs₇.extBut _ _ (Nat.ne_of_gt hel) (hs₆.extBut _ _ (Nat.ne_of_gt hel) (hs₅.extBut _ _ (Nat.ne_of_gt hel) ht₄))
  · rw [hs₇.1, hs₆.1, hs₅.1, hz₄]
  · exact fun b o hbe hbi hb => hs₇.extBut b o hbe (hs₆.extBut b o hbe (hs₅.extBut b o hbe (hk₄ b o hbe hbi hb)))

theorem enum_next_end {e it : Addr} {x : Str} {t : Tok} {i : Nat} {old : Value} {Q : Option Value → Shared → Prop} (hh : A.handled = none)
    (he : IsEnum s.heap e it i old) (hit : s.heap.IsStrIter it "str_ascii_iterator" x t i) (hx : x.cps[i]? = none)
    (hQ : ∀ h', Heap.ExtBut it s.heap h' → Q none { s with heap := h' }) : wpAny (model prog w) A (pyNext (.ref e)) Q E s := by
  have hT : s.TypeIs (.ref e) "enumerate" := ⟨_, he, rfl⟩
  unfold pyNext
  refine wpAny_bind (wpAny_attempt (wpAny_callSpecial?_slot (name := Str.ofString "__next__") hT F.slot_enumerate_next
    (wpAny_call_entry F.slot_enumerate_next hT F.entry_enumerate_next ?_ (F.args_enumerate_next_1 _))))
  show wpAny _ _ (field (.ref e) 2 >>= _) _ _ _
  refine wpAny_bind (wpAny_field he rfl (x := .ref it) rfl ?_)
  refine wpAny_bind (nextOf_end hh hit hx fun h' x he' hx' => ?_)
  obtain ⟨o, ho, hc⟩ := hx'
  refine wpAny_bind (wpAny_isInstance (T := "StopIteration") (b := true) ⟨o, ho, hc⟩ isSubtype_stop ?_)
  exact wpAny_pure (hQ _ he')

/-- two texts: are they one object? -/
theorem is_str {p q : Str} {t u : Tok} {Q : Value → Shared → Prop} (ht : @Ne Nat t 0) (hu : @Ne Nat u 0) (htu : @Ne Nat t u) (hb : NoneBooked s.heap) (h : ∀ r : Bool, (r = true → p = q) → Q (.bool r) s) :
    wpAny (model prog w) A (compareOp .Is (.str p t) (.str q u)) Q E s := by
  show wpAny _ _ (do return .bool (← isSame (.str p t) (.str q u))) Q E s
  have h0 : (t == 0 || u == 0) = false := by simp [ht, hu]
  refine wpAny_bind ?_
  by_cases e : p = q
  · exact wpAny_isSame_str h0 hb fun b => wpAny_pure (h b fun _ => e)
  · rw [isSame_str_other p q t u h0 (by simp [htu]) (by simp [e])]
    exact wpAny_pure (wpAny_pure (h false fun q => absurd q (by decide)))
end
end Mine
end

-- part In
section
open PySem PySem.W PyProof.Rows PySem.Spec
set_option maxRecDepth 100000
namespace Mine
section
variable {prog : Program} {w : World} {A : Around} {E : Value → Shared → Prop} {Q : Flow → Shared → Prop} {s : Shared} {env : Env} {h₀ : Heap} {L : Addr}
/-- for x1, x2 in enumerate(text): .. else: .. (a search for a mark) -/
theorem index_loop {x1 x2 : Str} {p1 p2 pt : Pos} {k : Nat} {body orelse : List Stmt} {m₀ : Str → Option Value} {news : List (Addr × Obj)} {text : Str} {tt : Tok}
    (hL : env.locals = L) (hh : A.handled = none) (hx1 : env.kindOf x1 = some .local) (hx2 : env.kindOf x2 = some .local) (hp : (env.scope.kind == .class || (env.scope.kind == .module && env.locals != env.globals)) = false) (ha : text.cps.all (· < 128) = true)
    (F : Fr h₀ L s.heap m₀) (N : News h₀ L s.heap news)
    (turn : ∀ (i c : Nat) (h : Heap) (tk : Nat) (tc en it : Nat) (oe oi : Obj), (cl text)[i]? = some c → 34 ∉ (cl text).take i → s.toks ≤ tc →
      Fr h₀ L h (fun y => if y = x2 then some (.str ⟨#[c]⟩ tc) else if y = x1 then some (.int (i : Int) (tc + 1)) else m₀ y) → News h₀ L h ((en, oe) :: (it, oi) :: news) →
      wpAny (model prog w) A (execs body env) (fun f s₂ => match f with
        | .ret v => Q (.ret v) s₂
        | .brk => Q .next s₂
        | _ => c ≠ 34 ∧ ∃ (h' : Heap) (tk' : Nat), s₂ = { s with heap := h', toks := tk' } ∧ Fr h₀ L h' (fun y => if y = x2 then some (.str ⟨#[c]⟩ tc) else if y = x1 then some (.int (i : Int) (tc + 1)) else m₀ y) ∧ News h₀ L h' ((en, oe) :: (it, oi) :: news)) E { s with heap := h, toks := tk })
    (done : ∀ (u : Str → Option Value) (h : Heap) (tk : Nat), 34 ∉ cl text → Fr h₀ L h (fun y => if y = x2 then u y else if y = x1 then u y else m₀ y) → News h₀ L h news → wpAny (model prog w) A (execs orelse env) Q E { s with heap := h, toks := tk }) :
    wpAny (model prog w) A (call (.type "enumerate") [.str text tt]) (fun x s₁ => wpAny (model prog w) A (pyIter x) (fun it s₂ => ∃ (I : Nat → Shared → Prop) (n₀ : Nat), I n₀ s₂ ∧
      ∀ n s', I n s' → wpAny (model prog w) A (pyNext it) (fun r s₃ => match r with
        | none => wpAny (model prog w) A (execs orelse env) Q E s₃
        | some v => wpAny (model prog w) A (letOwnedTupleGo (.Tuple [.Name x1 p1, .Name x2 p2] k pt) it v) (fun _ s₄ => wpAny (model prog w) A (assign (.Tuple [.Name x1 p1, .Name x2 p2] k pt) env v) (fun _ s₅ => wpAny (model prog w) A (execs body env) (fun f s₆ => match f with
            | .next | .cont => ∃ m, m < n ∧ I m s₆
            | .brk => Q .next s₆
            | .ret v => Q (.ret v) s₆) E s₅) E s₄) E s₃) E s') E s₁) E s := by
  subst hL
  refine call_enum_str ha fun h₁ he₁ hit₁ hz₁ hk₁ => ?_
  refine wpAny_pyIter_enum he₁ ?_
  generalize hIt : s.heap.objs.size = It at *
  have hLs : env.locals < It := hIt ▸ F.ns.lt
  have fresh : ∀ b, It ≤ b → h₀.get? b = none := fun b hb => Heap.get?_none_of_le (Nat.le_trans F.above (Nat.le_trans (Nat.le_of_lt hLs) hb))
  have hnew : ∀ p ∈ news, p.1 < It := fun p hp => hIt ▸ Heap.lt_size (N p hp).1
  refine ⟨fun q s' => ∃ i h tk m₁ old, s' = { s with heap := h, toks := tk } ∧ q = (cl text).length + 1 - i ∧ i ≤ (cl text).length ∧ s.toks ≤ tk ∧ IsEnum h (It + 1) It (i : Int) old ∧ h.IsStrIter It "str_ascii_iterator" text tt i ∧ Fr h₀ env.locals h m₁ ∧ News h₀ env.locals h news ∧ (∀ y, y ≠ x1 → y ≠ x2 → m₁ y = m₀ y) ∧ 34 ∉ (cl text).take i,
    (cl text).length + 1, ⟨0, h₁, _, m₀, _, rfl, rfl, Nat.zero_le _, Nat.le_refl _, he₁, hit₁, ⟨F.ns.at' fun o e => hk₁ _ o e, fun b o e => hk₁ b o (F.keep b o e), F.above⟩, (fun p hp => ⟨hk₁ _ _ (N p hp).1, (N p hp).2⟩), (fun _ _ _ => rfl), by simp⟩, ?_⟩
  rintro q s' ⟨i, h, tk, m₁, old, rfl, rfl, hi, htk, he, hit, F₁, N₁, hm, hpre⟩
  have hne : It + 1 ≠ It := Nat.succ_ne_self _
  cases hc : (cl text)[i]? with
  | none =>
    have hin : i = (cl text).length := by have := List.getElem?_eq_none_iff.mp hc; omega
    refine enum_next_end hh he hit (by simpa using hc) fun h' hx => ?_
    rw [hin, List.take_length] at hpre
    refine done m₁ h' tk hpre ?_ fun p hp => ⟨hx _ _ (Nat.ne_of_lt (hnew p hp)) (N₁ p hp).1, (N₁ p hp).2⟩
    have em : (fun y => if y = x2 then m₁ y else if y = x1 then m₁ y else m₀ y) = m₁ := by
      funext y
      by_cases e2 : y = x2
      · rw [if_pos e2]
      · by_cases e1 : y = x1
        · rw [if_neg e2, if_pos e1]
        · rw [if_neg e2, if_neg e1, hm y e1 e2]
    rw [em]
    exact ⟨F₁.ns.extBut hx (Nat.ne_of_lt hLs), fun b o e => hx b o (fun q => by rw [q, fresh It (Nat.le_refl _)] at e; cases e) (F₁.keep b o e), F₁.above⟩
  | some c =>
    have hlt : i < (cl text).length := (List.getElem?_eq_some_iff.mp hc).1
    refine enum_next_item he hit (by simpa using hc) hne fun h₂ heo hit₂ ht₂ hz₂ hk₂ => ?_
    refine wpAny_letOwnedTupleGo_enum heo fun h₃ he₃ hs₃ => ?_
    replace hs₃ : Heap.SameBut (It + 1) h₂ h₃ := hs₃
    have heH : It + 1 < h.objs.size := Heap.lt_size he
    have keep₃ : ∀ b o, b ≠ It + 1 → b ≠ It → h.get? b = some o → h₃.get? b = some o := fun b o h1 h2 e => hs₃.extBut b o h1 (hk₂ b o h1 h2 e)
    have htup : h₃.IsTuple h.objs.size #[.int (i : Int) (tk + 1), .str ⟨#[c]⟩ tk] := ⟨_, (hs₃.2 _ (Nat.ne_of_gt heH)).trans ht₂, rfl, _, rfl⟩
    refine wpAny_assign_Tuple hh htup rfl rfl fun h₄ hx₄ => ?_
    replace hx₄ : Heap.ExtBut h₃.objs.size h₃ h₄ := hx₄
    have old₄ : ∀ b o, h₃.get? b = some o → h₄.get? b = some o := fun b o e => hx₄ b o (Nat.ne_of_lt (Heap.lt_size e)) e
    have F₄ : Fr h₀ env.locals h₄ m₁ := ⟨F₁.ns.at' fun o e => old₄ _ o (keep₃ _ o (Nat.ne_of_lt (Nat.lt_succ_of_lt hLs)) (Nat.ne_of_lt hLs) e),
      fun b o e => old₄ b o (keep₃ b o (fun q => by rw [q, fresh _ (Nat.le_succ _)] at e; cases e) (fun q => by rw [q, fresh _ (Nat.le_refl _)] at e; cases e) (F₁.keep b o e)), F₁.above⟩
    obtain ⟨oi, hoi, hci, hdi⟩ := hit₂.extBut hs₃.extBut (Ne.symm hne)
    have N₄ : News h₀ env.locals h₄ ((It + 1, { cls := .type "enumerate", dict := none, data := .fields #[.none, .bool false, .ref It, rawInt ((i : Int) + 1), .none, .str ⟨#[c]⟩ tk], slots := #[] }) :: (It, oi) :: news) := fun p hp => by
      rcases List.mem_cons.mp hp with rfl | hp
      · exact ⟨old₄ _ _ he₃, Nat.ne_of_gt (Nat.lt_succ_of_lt hLs), fresh _ (Nat.le_succ _)⟩
      rcases List.mem_cons.mp hp with rfl | hp
      · exact ⟨old₄ _ _ hoi, Nat.ne_of_gt hLs, fresh _ (Nat.le_refl _)⟩
      · have hq := hnew p hp
        exact ⟨old₄ _ _ (keep₃ _ _ (Nat.ne_of_lt (Nat.lt_succ_of_lt hq)) (Nat.ne_of_lt hq) (N₁ p hp).1), (N₁ p hp).2⟩
    show wpAny _ A (do holding [.str ⟨#[c]⟩ tk] (assign (.Name x1 p1) env (.int (i : Int) (tk + 1))); do holding [] (assign (.Name x2 p2) env (.str ⟨#[c]⟩ tk)); pure ()) _ _ _
    refine wpAny_bind (wpAny_holding (wpAny_assign_Name (wpAny_storeName_local hx1 F₄.ns (fun h₅ hn₅ hs₅ => ?_) hp)))
    replace hs₅ : Heap.SameBut env.locals h₄ h₅ := hs₅
    have F₅ := F₄.set hn₅ hs₅
    have N₅ := N₄.set hs₅
    refine wpAny_bind (wpAny_holding (wpAny_assign_Name (wpAny_storeName_local hx2 F₅.ns (fun h₆ hn₆ hs₆ => wpAny_pure ?_) hp)))
    replace hs₆ : Heap.SameBut env.locals h₅ h₆ := hs₆
    have F₆ := F₅.set hn₆ hs₆
    have N₆ := N₅.set hs₆
    have em : (fun y => if y = x2 then some (Value.str ⟨#[c]⟩ tk) else if y = x1 then some (Value.int (i : Int) (tk + 1)) else m₁ y) = fun y => if y = x2 then some (Value.str ⟨#[c]⟩ tk) else if y = x1 then some (Value.int (i : Int) (tk + 1)) else m₀ y := by
      funext y
      by_cases e2 : y = x2
      · rw [if_pos e2, if_pos e2]
      · by_cases e1 : y = x1
        · rw [if_neg e2, if_neg e2, if_pos e1, if_pos e1]
        · rw [if_neg e2, if_neg e2, if_neg e1, if_neg e1, hm y e1 e2]
    rw [em] at F₆
    refine wpAny_with_toks (n := s.toks) (Nat.le_trans htk (by show tk ≤ tk + 1 + 1 + 1 + 1; omega)) ?_
    refine wpAny_mono (turn i c h₆ _ tk (It + 1) It _ oi hc hpre htk F₆ N₆) (fun f s₇ h₇ htk₇ => ?_) fun _ _ e _ => e
    have fin : c ≠ 34 ∧ (∃ (h' : Heap) (tk' : Nat), s₇ = { s with heap := h', toks := tk' } ∧ Fr h₀ env.locals h' (fun y => if y = x2 then some (.str ⟨#[c]⟩ tk) else if y = x1 then some (.int (i : Int) (tk + 1)) else m₀ y) ∧ News h₀ env.locals h' ((It + 1, { cls := .type "enumerate", dict := none, data := .fields #[.none, .bool false, .ref It, rawInt ((i : Int) + 1), .none, .str ⟨#[c]⟩ tk], slots := #[] }) :: (It, oi) :: news)) → ∃ q', q' < (cl text).length + 1 - i ∧
        ∃ i h tk m₁ old, s₇ = { s with heap := h, toks := tk } ∧ q' = (cl text).length + 1 - i ∧ i ≤ (cl text).length ∧ s.toks ≤ tk ∧ IsEnum h (It + 1) It (i : Int) old ∧ h.IsStrIter It "str_ascii_iterator" text tt i ∧ Fr h₀ env.locals h m₁ ∧ News h₀ env.locals h news ∧ (∀ y, y ≠ x1 → y ≠ x2 → m₁ y = m₀ y) ∧ 34 ∉ (cl text).take i := by
      rintro ⟨hc34, h', tk', rfl, F', N'⟩
      have hI := (N' _ (.tail _ (.head _))).1
      have hE := (N' _ (.head _)).1
      refine ⟨(cl text).length + 1 - (i + 1), by omega, i + 1, h', tk', _, .str ⟨#[c]⟩ tk, rfl, rfl, hlt, htk₇, by push_cast; exact hE, ⟨oi, hI, hci, hdi⟩, F', fun p hp => N' p (.tail _ (.tail _ hp)), fun y e1 e2 => by rw [if_neg e2, if_neg e1], ?_⟩
      rw [List.take_add_one, hc]
      simp only [Option.toList_some, List.mem_append, List.mem_singleton, not_or]
      exact ⟨hpre, fun e => hc34 e.symm⟩
    cases f with
    | ret v => exact h₇
    | brk => exact h₇
    | next => exact fin h₇
    | cont => exact fin h₇
end
end Mine
end

-- part Ls
section
open PySem PySem.W PyProof.Rows PySem.Spec
namespace Mine
/-- what a frame's base keeps when a callee's exception is caught -/
structure Bse (A₀ : Around) (base : Heap) (outer : List Env) (K : Frag) (p : Program) (loose : List Str) (mean : ExcName → Option Value) (mg mb : Str → Option Value) (g₀ g : Heap) : Prop where
  turn : KtsTurn (outer.filterMap (·.frame)) g₀ g
  below : Below A₀ base outer g
  in_ : K.In g
  top : Top p loose mean mg mb g
  dicts : KtsDicts (outer.filterMap (·.frame)) g
section
variable {prog : Program} {w : World} {A : Around} {E : Value → Shared → Prop} {Q : Flow → Shared → Prop} {s : Shared} {env : Env} {g₀ : Heap} {L : Addr}
def LEndS {σ : Type} (B : Heap → Prop) (L : Addr) (s : Shared) (Led : σ → List (Addr × Obj)) (ps : σ → List (Str × Value)) (stored : List Str) (m₀ : Str → Option Value) (P : σ → Prop) (s₂ : Shared) : Prop :=
  ∃ (g : Heap) (c' : σ) (h' : Heap) (tk : Nat) (m' : Str → Option Value) (news' : List (Addr × Obj)), s₂ = { s with heap := h', toks := tk } ∧ B g ∧ Fr g L h' m' ∧ News g L h' news' ∧ (∀ p ∈ Led c', p ∈ news') ∧ (∀ p ∈ ps c', m' p.1 = some p.2) ∧
    (∀ z, (∀ p ∈ ps c', z ≠ p.1) → stored.contains z = false → m' z = m₀ z) ∧ P c'
def LPostS {σ : Type} (B : Heap → Prop) (L : Addr) (s : Shared) (Led : σ → List (Addr × Obj)) (ps : σ → List (Str × Value)) (stored : List Str) (m₀ : Str → Option Value) (P : σ → Prop) (Q : Flow → Shared → Prop) (f : Flow) (s₂ : Shared) : Prop :=
  match f with
  | .ret v => Q (.ret v) s₂
  | .brk => Q .next s₂
  | _ => LEndS B L s Led ps stored m₀ P s₂
theorem lendS {σ : Type} {B : Heap → Prop} {g : Heap} {s : Shared} {Led : σ → List (Addr × Obj)} {ps : σ → List (Str × Value)} {stored : List Str} {m₀ m' : Str → Option Value} {P : σ → Prop} {h' : Heap} {tk : Nat} {news' : List (Addr × Obj)} (c' : σ)
    (hB : B g) (F : Fr g L h' m') (N : News g L h' news') (hn : ∀ p ∈ Led c', p ∈ news') (hk : ∀ p ∈ ps c', m' p.1 = some p.2) (hr : ∀ z, (∀ p ∈ ps c', z ≠ p.1) → stored.contains z = false → m' z = m₀ z) (hp : P c') :
    LEndS B L s Led ps stored m₀ P { s with heap := h', toks := tk } := ⟨g, c', h', tk, m', news', rfl, hB, F, N, hn, hk, hr, hp⟩
/-- a while whose turns may catch exceptions: the base may change -/
theorem while_S {σ : Type} {test : Expr} {body : List Stmt} {pos : Pos} {m₀ : Str → Option Value} (B : Heap → Prop) (Led : σ → List (Addr × Obj)) (ps : σ → List (Str × Value)) (stored : List Str) (P : σ → Prop) (μ : σ → Nat) (c₀ : σ) (T0 : Nat) (hT : T0 ≤ s.toks)
    (hB : B g₀) (F : Fr g₀ L s.heap m₀) (N : News g₀ L s.heap (Led c₀)) (hk : ∀ p ∈ ps c₀, m₀ p.1 = some p.2) (hP : P c₀)
    (turn : ∀ g c (u : Str → Option Value) h tk, B g → T0 ≤ tk → P c → Fr g L h (kstB (fun z => if stored.contains z then u z else m₀ z) (ps c)) → News g L h (Led c) →
      wpAny (model prog w) A (isTrue test env (eval test env)) (fun b s₂ =>
        if b = true then wpAny (model prog w) A (execs body env) (LPostS B L s Led ps stored m₀ (fun c' => P c' ∧ μ c' < μ c) Q) E s₂ else Q .next s₂) E { s with heap := h, toks := tk })
    (hE : PassesOwn (model prog w) A env E := by passes_own) :
    wpAny (model prog w) A (exec (.While test body [] pos) env) Q E s := by
  refine wpAny_While (codeAny_whileLoop (fun n s' => ∃ g c h tk m₁, s' = { s with heap := h, toks := tk } ∧ n = μ c ∧ T0 ≤ tk ∧ B g ∧ Fr g L h m₁ ∧ News g L h (Led c) ∧ (∀ p ∈ ps c, m₁ p.1 = some p.2) ∧ (∀ z, (∀ p ∈ ps c, z ≠ p.1) → stored.contains z = false → m₁ z = m₀ z) ∧ P c) ?_ (μ c₀)
    ⟨g₀, c₀, s.heap, s.toks, m₀, rfl, rfl, hT, hB, F, N, hk, fun _ _ _ => rfl, hP⟩)
  rintro n s' ⟨g, c, h, tk, m₁, rfl, rfl, htk, hB₁, F₁, N₁, h1, h2, hP₁⟩
  refine wpAny_with_toks (n := T0) htk ?_
  refine wpAny_mono (turn g c m₁ h tk hB₁ htk hP₁ (ksw_fr h1 h2 F₁) N₁) (fun b s₂ h₂ htk₂ => ?_) fun e s₂ x _ => hE e s₂ x
  cases b with
  | false =>
    simp only [Bool.false_eq_true, if_false] at h₂ ⊢
    exact wpAny_execs_nil h₂
  | true =>
    simp only [if_true] at h₂ ⊢
    refine wpAny_with_toks (n := T0) htk₂ ?_
    refine wpAny_mono h₂ (fun f s₃ h₃ htk₃ => ?_) fun e s₂ x _ => hE e s₂ x
    have fin : LEndS B L s Led ps stored m₀ (fun c' => P c' ∧ μ c' < μ c) s₃ → ∃ q, q < μ c ∧ ∃ g c h tk m₁, s₃ = { s with heap := h, toks := tk } ∧ q = μ c ∧ T0 ≤ tk ∧ B g ∧ Fr g L h m₁ ∧ News g L h (Led c) ∧ (∀ p ∈ ps c, m₁ p.1 = some p.2) ∧ (∀ z, (∀ p ∈ ps c, z ≠ p.1) → stored.contains z = false → m₁ z = m₀ z) ∧ P c := by
      rintro ⟨g', c', h', tk', m', news', rfl, hB', F', N', hn', hk', hr', hp'⟩
      exact ⟨μ c', hp'.2, g', c', h', tk', m', rfl, rfl, htk₃, hB', F', fun p hp => N' p (hn' p hp), hk', hr', hp'.1⟩
    cases f with
    | ret v => exact h₃
    | brk => exact h₃
    | next => exact fin h₃
    | cont => exact fin h₃
/-- while_T, the ledger's head changing -/
theorem while_L {σ : Type} {test : Expr} {body : List Stmt} {pos : Pos} {m₀ : Str → Option Value} {la : Addr} {rest : List (Addr × Obj)} (ob : σ → Obj) (ps : σ → List (Str × Value)) (stored : List Str) (P : σ → Prop) (μ : σ → Nat) (c₀ : σ) (T0 : Nat) (hT : T0 ≤ s.toks)
    (F : Fr g₀ L s.heap m₀) (N : News g₀ L s.heap ((la, ob c₀) :: rest)) (hk : ∀ p ∈ ps c₀, m₀ p.1 = some p.2) (hP : P c₀)
    (turn : ∀ c (u : Str → Option Value) h tk, T0 ≤ tk → P c → Fr g₀ L h (kstB (fun z => if stored.contains z then u z else m₀ z) (ps c)) → News g₀ L h ((la, ob c) :: rest) →
      wpAny (model prog w) A (isTrue test env (eval test env)) (fun b s₂ =>
        if b = true then wpAny (model prog w) A (execs body env) (LPost g₀ L s (fun c => (la, ob c) :: rest) ps stored m₀ [] (fun c' => P c' ∧ μ c' < μ c) Q) E s₂ else Q .next s₂) E { s with heap := h, toks := tk })
    (hE : PassesOwn (model prog w) A env E := by passes_own) :
    wpAny (model prog w) A (exec (.While test body [] pos) env) Q E s := while_T (fun c => (la, ob c) :: rest) ps stored P μ c₀ T0 hT F N hk hP turn hE
/-- while_T, the ledger as it is -/
theorem while_K {σ : Type} {test : Expr} {body : List Stmt} {pos : Pos} {m₀ : Str → Option Value} {rest : List (Addr × Obj)} (ps : σ → List (Str × Value)) (stored : List Str) (P : σ → Prop) (μ : σ → Nat) (c₀ : σ) (T0 : Nat) (hT : T0 ≤ s.toks)
    (F : Fr g₀ L s.heap m₀) (N : News g₀ L s.heap rest) (hk : ∀ p ∈ ps c₀, m₀ p.1 = some p.2) (hP : P c₀)
    (turn : ∀ c (u : Str → Option Value) h tk, T0 ≤ tk → P c → Fr g₀ L h (kstB (fun z => if stored.contains z then u z else m₀ z) (ps c)) → News g₀ L h rest →
      wpAny (model prog w) A (isTrue test env (eval test env)) (fun b s₂ =>
        if b = true then wpAny (model prog w) A (execs body env) (LPost g₀ L s (fun _ => rest) ps stored m₀ [] (fun c' => P c' ∧ μ c' < μ c) Q) E s₂ else Q .next s₂) E { s with heap := h, toks := tk })
    (hE : PassesOwn (model prog w) A env E := by passes_own) :
    wpAny (model prog w) A (exec (.While test body [] pos) env) Q E s := while_T (fun _ => rest) ps stored P μ c₀ T0 hT F N hk hP turn hE
/-- a try whose ends are joined: the place of the first mark, or the end -/
def MidP (B : Heap → Prop) (L : Addr) (s : Shared) (text : Str) (m : Str → Option Value) (news : List (Addr × Obj)) (f : Flow) (s' : Shared) : Prop :=
  ∃ (g : Heap) (k : Nat) (h : Heap) (tk : Nat) (t : Tok), f = .next ∧ s' = { s with heap := h, toks := tk } ∧ B g ∧ k ≤ text.length ∧ 34 ∉ (cl text).take k ∧ (k < text.length → (cl text)[k]? = some 34) ∧ News g L h news ∧
    Fr g L h (fun y => if y = Str.ofString "place" then some (.int (k : Int) t) else m y)
theorem nsub {g h : Heap} {L : Addr} {a b : List (Addr × Obj)} (N : News g L h b) (hs : ∀ p ∈ a, p ∈ b) : News g L h a := fun p hp => N p (hs p hp)
theorem mid_try {M : Model} {st : Stmt} (B : Heap → Prop) (_hB : B g₀) {m : Str → Option Value} {news : List (Addr × Obj)} (_F : Fr g₀ L s.heap m) (_N : News g₀ L s.heap news) (text : Str) (h1 : wpAny M A (exec st env) (MidP B L s text m news) E s)
    (h2 : ∀ f s', MidP B L s text m news f s' → Q f s') : wpAny M A (exec st env) Q E s :=
  wpAny_mono h1 (fun f s' h => h2 f s' h) fun _ _ e => e
end
end Mine
end

-- part Lv
section
open PySem PySem.W PyProof.Rows PySem.Spec
namespace Mine
theorem sl_one {x : Str} {i : Int} (h0 : 0 ≤ i) : (Txt.slice x (some i) (some (i + 1)) == Str.ofString "\"") = decide (((cl x).drop i.toNat).head? = some 34) := by
  rw [q_is, Bool.eq_iff_iff, beq_iff_eq, decide_eq_true_eq]
  have h1 : (i + 1).toNat - i.toNat = 1 := by omega
  have h := slice_cl (x := x) h0 (show (0 : Int) ≤ i + 1 by omega)
  rw [h1] at h
  constructor
  · intro e
    rw [e] at h
    cases hd : (cl x).drop i.toNat with
    | nil => rw [hd] at h; cases h
    | cons c r => rw [hd] at h; have h : [34] = [c] := h; simp at h; simp [h]
  · intro e
    refine str_ext ?_
    rw [h]
    cases hd : (cl x).drop i.toNat with
    | nil => rw [hd] at e; cases e
    | cons c r => rw [hd] at e; simp at e; simp [e]
theorem sl_two {x : Str} {i : Int} (h0 : 0 ≤ i) : (Txt.slice x (some i) (some (i + 2)) == Str.ofString "\\\"") = decide (((cl x).drop i.toNat).take 2 = [92, 34]) := by
  rw [bq_is, Bool.eq_iff_iff, beq_iff_eq, decide_eq_true_eq]
  have h1 : (i + 2).toNat - i.toNat = 2 := by omega
  have h := slice_cl (x := x) h0 (show (0 : Int) ≤ i + 2 by omega)
  rw [h1] at h
  constructor
  · intro e
    rw [← h, e]
  · intro e
    refine str_ext ?_
    rw [h, e]
/-- a run goes on -/
theorem run_on {l : List Nat} {p far : Nat} (hf : p ≤ far) (h : l.drop p = List.replicate (far - p) 34 ++ l.drop far) (h1 : (l.drop far).head? = some 34) : far < l.length ∧ l.drop p = List.replicate (far + 1 - p) 34 ++ l.drop (far + 1) := by
  have hlt : far < l.length := by
    rcases Nat.lt_or_ge far l.length with q | q
    · exact q
    · rw [List.drop_eq_nil_of_le q] at h1; cases h1
  refine ⟨hlt, ?_⟩
  rw [h, List.drop_eq_getElem_cons hlt]
  rw [List.drop_eq_getElem_cons hlt] at h1
  simp only [List.head?_cons, Option.some.injEq] at h1
  rw [h1, show far + 1 - p = (far - p) + 1 by omega, List.replicate_succ', List.append_assoc]
  rfl
theorem rep_head {n : Nat} {r : List Nat} (h : 1 ≤ n) : (List.replicate n 34 ++ r).head? = some 34 := by
  obtain ⟨m, rfl⟩ : ∃ m, n = m + 1 := ⟨n - 1, by omega⟩
  rfl
theorem chn_no {l : List Nat} (h : l.head? ≠ some 34) {ns rest} (hc : Chn l ns rest) : ns = [] ∧ rest = l := by
  cases hc with
  | stop _ => exact ⟨rfl, rfl⟩
  | last h1 _ _ => exact absurd (rep_head h1) h
  | more h1 _ => exact absurd (rep_head h1) h
/-- a run is over: the chain goes on, or not -/
theorem chain_on {l : List Nat} {p far : Nat} (hf : p < far) (h : l.drop p = List.replicate (far - p) 34 ++ l.drop far) (h1 : (l.drop far).take 2 = [92, 34]) {ns rest} (hc : Chn (l.drop (far + 1)) ns rest) : Chn (l.drop p) ((far - p) :: ns) rest := by
  have e : l.drop far = 92 :: 34 :: (l.drop far).drop 2 := by
    conv => lhs; rw [← List.take_append_drop 2 (l.drop far), h1]
    rfl
  have e2 : l.drop (far + 1) = 34 :: (l.drop far).drop 2 := by
    rw [← List.drop_drop, e]
    rfl
  rw [e2] at hc
  rw [h, e]
  exact .more (by omega) hc
theorem chain_end {l : List Nat} {p far : Nat} (hf : p < far) (h : l.drop p = List.replicate (far - p) 34 ++ l.drop far) (h1 : (l.drop far).head? ≠ some 34) (h2 : (l.drop far).take 2 ≠ [92, 34]) {ns rest} (hc : Chn (l.drop far) ns rest) : Chn (l.drop p) ((far - p) :: ns) rest := by
  obtain ⟨rfl, rfl⟩ := chn_no h1 hc
  rw [h]
  exact .last (by omega) h1 h2
/-- the levels told so far, and those to come -/
structure LvI (text₀ text : Str) (own : List (Addr × Obj)) (lv : Addr) (vs : List Value) : Prop where
  levs : ∃ ls₀, LevsIn own vs ls₀ ∧ (cl text = [] → Lev (cl text₀) ls₀) ∧ ∀ ls, cl text ≠ [] → Lev (cl text) ls → Lev (cl text₀) (ls₀ ++ ls)
  above : ∀ q ∈ own, lv < q.1
  asc : text.cps.all (· < 128) = true
  len : text.length + vs.length ≤ 1000
theorem levsIn_more {own own' : List (Addr × Obj)} {vs : List Value} {ls : List (List Nat × List Nat)} (hs : ∀ p ∈ own, p ∈ own') (h : LevsIn own vs ls) {a : List Nat × List Nat} {T c : Addr} {x : Str} {tt : Tok} {n n' : Nat} {cvs : List Value}
    (hT : (T, ({ cls := .type "tuple", data := .seq #[Value.str x tt, .ref c] n' } : Obj)) ∈ own') (hx : cl x = a.1) (hc : (c, listOf cvs.toArray n) ∈ own') (hi : IntsAre cvs (a.2.map fun (k : Nat) => (k : Int))) : LevsIn own' (vs ++ [.ref T]) (ls ++ [a]) := by
  obtain ⟨h1, h2⟩ := h
  refine ⟨by simp [h1], fun i b hb => ?_⟩
  by_cases hi' : i < ls.length
  · rw [List.getElem?_append_left hi'] at hb
    obtain ⟨T', v1, v2, m, e1, e2, x', tt', c', k, cv', r1, r2, r3, r4, r5⟩ := h2 i b hb
    exact ⟨T', v1, v2, m, by rw [List.getElem?_append_left (by omega)]; exact e1, hs _ e2, x', tt', c', k, cv', r1, r2, r3, hs _ r4, r5⟩
  · have e : i = ls.length := by
      have := (List.getElem?_eq_some_iff.mp hb).1
      simp at this
      omega
    subst e
    have hb' : a = b := by simpa using hb
    subst hb'
    exact ⟨T, _, _, n', by rw [← h1]; simp, hT, x, tt, c, n, cvs, rfl, rfl, hx, hc, hi⟩
theorem all_drop {x y : Str} {k : Nat} (hy : cl y = (cl x).drop k) (h : x.cps.all (· < 128) = true) : y.cps.all (· < 128) = true := by
  rw [Array.all_eq_true_iff_forall_mem] at h ⊢
  intro c hc
  refine h c ?_
  have : c ∈ cl y := by simpa using hc
  rw [hy] at this
  have := List.mem_of_mem_drop this
  simpa using this
/-- one level more -/
theorem lvi_step {text₀ text text' : Str} {own own' : List (Addr × Obj)} {lv : Addr} {vs : List Value} (h : LvI text₀ text own lv vs) {k p : Nat} {ns : List Nat} (hne : cl text ≠ []) (hk : k ≤ text.length) (hpre : 34 ∉ (cl text).take k) (hat : k < text.length → (cl text)[k]? = some 34)
    (hp : p ≤ text.length) (hkp : k ≤ p) (h1 : esc ((cl text).take k) = true → Chn ((cl text).drop k) ns ((cl text).drop p)) (h0 : esc ((cl text).take k) = false → ns = [])
    (ht' : cl text' = if ns = [] then [] else (cl text).drop p) {T c : Addr} {x : Str} {tt : Tok} {n n' : Nat} {cvs : List Value} (hs : ∀ q ∈ own, q ∈ own') (ha : ∀ q ∈ own', q ∈ own ∨ lv < q.1)
    (hT : (T, ({ cls := .type "tuple", data := .seq #[Value.str x tt, .ref c] n' } : Obj)) ∈ own') (hx : cl x = Lx ((cl text).take k)) (hc : (c, listOf cvs.toArray n) ∈ own') (hi : IntsAre cvs (ns.map fun (k : Nat) => (k : Int))) :
    LvI text₀ text' own' lv (vs ++ [.ref T]) ∧ text'.length < text.length := by
  obtain ⟨⟨ls₀, l1, _, l3⟩, ab, asc, len⟩ := h
  have hpost : k < text.length → ((cl text).drop k).head? = some 34 := fun hlt => by
    rw [List.head?_drop]; exact hat hlt
  have hsplit : (cl text).take k ++ (cl text).drop k = cl text := List.take_append_drop _ _
  have hl : text'.length < text.length := by
    rw [len_cl, len_cl, ht']
    have h4 : (cl text).length ≠ 0 := fun e => hne (List.eq_nil_of_length_eq_zero e)
    by_cases hn : ns = []
    · rw [if_pos hn]; simp only [List.length_nil]; omega
    · rw [if_neg hn, List.length_drop]
      have he : esc ((cl text).take k) = true := by
        cases e : esc ((cl text).take k) with
        | true => rfl
        | false => exact absurd (h0 e) hn
      have hch := h1 he
      have : p ≠ 0 := by
        intro e
        have hk0 : k = 0 := by omega
        rw [hk0] at he
        simp [esc] at he
      omega
  refine ⟨⟨⟨ls₀ ++ [(Lx ((cl text).take k), ns)], levsIn_more hs l1 (a := (Lx ((cl text).take k), ns)) hT hx hc hi, ?_, ?_⟩, ?_, ?_, ?_⟩, hl⟩
  · intro he
    refine l3 _ hne ?_
    by_cases hn : ns = []
    · subst hn
      cases e : esc ((cl text).take k) with
      | false =>
        have := Lev.even (post := (cl text).drop k) hpre (by
          by_cases hlt : k < text.length
          · exact .inr (hpost hlt)
          · exact .inl (List.drop_eq_nil_of_le (by rw [← len_cl]; omega))) e
        rw [hsplit] at this
        exact this
      | true =>
        by_cases hlt : k < text.length
        · exact absurd rfl ((h1 e).ne (hpost hlt))
        · have e2 : (cl text).take k = cl text := List.take_of_length_le (by rw [← len_cl]; omega)
          have := Lev.gone hpre e
          rw [e2] at this ⊢
          exact this
    · have hesc : esc ((cl text).take k) = true := by
        cases e : esc ((cl text).take k) with
        | true => rfl
        | false => exact absurd (h0 e) hn
      rw [ht', if_neg hn] at he
      have hch := h1 hesc
      have hq : ((cl text).drop k).head? = some 34 := by
        rcases Decidable.em (((cl text).drop k).head? = some 34) with q | q
        · exact q
        · exact absurd (chn_no q hch).1 hn
      rw [he] at hch
      have := Lev.odd hpre hq hesc hch .nil
      rw [hsplit] at this
      exact this
  · intro ls hne' hL
    by_cases hn : ns = []
    · exact absurd (by rw [ht', if_pos hn]) hne'
    · have hesc : esc ((cl text).take k) = true := by
        cases e : esc ((cl text).take k) with
        | true => rfl
        | false => exact absurd (h0 e) hn
      rw [ht', if_neg hn] at hL
      have hch := h1 hesc
      have hq : ((cl text).drop k).head? = some 34 := by
        rcases Decidable.em (((cl text).drop k).head? = some 34) with q | q
        · exact q
        · exact absurd (chn_no q hch).1 hn
      have := Lev.odd hpre hq hesc hch hL
      rw [hsplit] at this
      rw [List.append_assoc]
      exact l3 _ hne this
  · intro q hq
    rcases ha q hq with q' | q'
    · exact ab q q'
    · exact q'
  · by_cases hn : ns = []
    · have : cl text' = [] := by rw [ht', if_pos hn]
      have e2 : text' = ⟨#[]⟩ := str_ext this
      rw [e2]; simp
    · exact all_drop (by rw [ht', if_neg hn]) asc
  · simp only [List.length_append, List.length_singleton]
    omega
theorem lvi_start {text₀ : Str} {lv : Addr} (ha : text₀.cps.all (· < 128) = true) (hl : text₀.length ≤ 1000) : LvI text₀ text₀ [] lv [] :=
  ⟨⟨[], ⟨rfl, fun i a h => by simp at h⟩, fun h => by rw [h]; exact .nil, fun ls _ h => h⟩, (fun _ h => nomatch h), ha, by simpa using hl⟩
theorem lvi_end {text₀ text : Str} {own : List (Addr × Obj)} {lv : Addr} {vs : List Value} (h : LvI text₀ text own lv vs) (he : cl text = []) : ∃ ls, LevsIn own vs ls ∧ Lev (cl text₀) ls := by
  obtain ⟨⟨ls, h1, h2, _⟩, _⟩ := h
  exact ⟨ls, h1, h2 he⟩
section
variable {s : Shared} {L : Addr} {g : Heap}
def MidC (g : Heap) (L : Addr) (s : Shared) (text : Str) (k : Nat) (la : Addr) (m : Str → Option Value) (news : List (Addr × Obj)) (f : Flow) (s' : Shared) : Prop :=
  ∃ (h : Heap) (tk : Nat) (p : Nat) (tp : Tok) (u : Option Value) (ns : List Nat) (cvs : List Value) (n : Nat), f = .next ∧ s' = { s with heap := h, toks := tk } ∧ k ≤ p ∧ p ≤ text.length ∧
    (esc ((cl text).take k) = true → Chn ((cl text).drop k) ns ((cl text).drop p)) ∧ (esc ((cl text).take k) = false → ns = []) ∧ ns.length ≤ 1000 ∧ IntsAre cvs (ns.map fun (k : Nat) => (k : Int)) ∧ News g L h ((la, listOf cvs.toArray n) :: news) ∧
    Fr g L h (fun y => if y = Str.ofString "place" then some (.int (p : Int) tp) else if y = Str.ofString "far" then u else m y)
theorem mid_if {M : Model} {A : Around} {E : Value → Shared → Prop} {Q : Flow → Shared → Prop} {env : Env} {st : Stmt} {la : Addr} {o : Obj} {m : Str → Option Value} {news : List (Addr × Obj)} (_F : Fr g L s.heap m) (_N : News g L s.heap ((la, o) :: news)) (text : Str) (k : Nat)
    (h1 : wpAny M A (exec st env) (MidC g L s text k la m news) E s) (h2 : ∀ f s', MidC g L s text k la m news f s' → Q f s') : wpAny M A (exec st env) Q E s :=
  wpAny_mono h1 (fun f s' h => h2 f s' h) fun _ _ e => e
theorem fr_keep {h : Heap} {m : Str → Option Value} {a b : Str} {v : Value} (F : Fr g L h m) (ha : m a = some v) : Fr g L h (fun y => if y = a then some v else if y = b then m b else m y) := by
  have e : (fun y => if y = a then some v else if y = b then m b else m y) = m := by
    funext y
    by_cases h1 : y = a
    · rw [if_pos h1, h1, ha]
    · rw [if_neg h1]
      by_cases h2 : y = b
      · rw [if_pos h2, h2]
      · rw [if_neg h2]
  rw [e]
  exact F
theorem fr_far {h : Heap} {m u : Str → Option Value} {a b : Str} {v : Value} (F : Fr g L h (fun y => if y = a then some v else if [b].contains y = true then u y else m y)) : Fr g L h (fun y => if y = a then some v else if y = b then u b else m y) := by
  have e : (fun y => if y = a then some v else if y = b then u b else m y) = (fun y => if y = a then some v else if [b].contains y = true then u y else m y) := by
    funext y
    by_cases h1 : y = a
    · rw [if_pos h1, if_pos h1]
    · rw [if_neg h1, if_neg h1]
      by_cases h2 : y = b
      · subst h2
        simp
      · simp [h2]
  rw [e]
  exact F
structure ChS where
  p : Nat
  tp : Tok
  ns : List Nat
  cvs : List Value
  n : Nat
structure ChI (text : Str) (k : Nat) (c : ChS) : Prop where
  lo : k ≤ c.p
  hi : c.p ≤ text.length
  nums : IntsAre c.cvs (c.ns.map fun (k : Nat) => (k : Int))
  len : c.ns.length + (text.length - c.p) ≤ 1000
  go : ∀ ns' rest, Chn ((cl text).drop c.p) ns' rest → Chn ((cl text).drop k) (c.ns ++ ns') rest
structure FaI (text : Str) (p : Nat) (c : Nat × Tok) : Prop where
  lo : p ≤ c.1
  hi : c.1 ≤ text.length
  run : (cl text).drop p = List.replicate (c.1 - p) 34 ++ (cl text).drop c.1
theorem chi_start {text : Str} {k : Nat} {tp : Tok} (hk : k ≤ text.length) (hl : text.length ≤ 1000) : ChI text k ⟨k, tp, [], [], 0⟩ := ⟨Nat.le_refl _, hk, .nil, by dsimp only; simp; omega, fun _ _ h => h⟩
theorem fai_start {text : Str} {p : Nat} {t : Tok} (hk : p ≤ text.length) : FaI text p (p, t) := ⟨Nat.le_refl _, hk, by simp⟩
theorem fai_step {text : Str} {p far : Nat} {t t' : Tok} (h : FaI text p (far, t)) (hq : ((cl text).drop far).head? = some 34) : FaI text p (far + 1, t') ∧ text.length - (far + 1) < text.length - far := by
  obtain ⟨a, b, c⟩ := h
  obtain ⟨h1, h2⟩ := run_on a c hq
  rw [← len_cl] at h1
  exact ⟨⟨by dsimp only at a ⊢; omega, h1, h2⟩, by omega⟩
theorem chi_end {text : Str} {k p : Nat} {tp : Tok} {ns : List Nat} {cvs : List Value} {n : Nat} (h : ChI text k ⟨p, tp, ns, cvs, n⟩) (hq : ((cl text).drop p).head? ≠ some 34) : Chn ((cl text).drop k) ns ((cl text).drop p) := by
  have := h.go [] _ (.stop hq)
  rw [List.append_nil] at this
  exact this
theorem chi_step {text : Str} {k p far : Nat} {tp : Tok} {ns : List Nat} {cvs : List Value} {n : Nat} (h : ChI text k ⟨p, tp, ns, cvs, n⟩) {tf : Tok} (hf : FaI text p (far, tf)) (hq : ((cl text).drop p).head? = some 34) (h1 : ((cl text).drop far).head? ≠ some 34) {t' t2 : Tok} {n' : Nat} {v : Int} (hv : v = ((far - p : Nat) : Int)) :
    (((cl text).drop far).take 2 = [92, 34] → ChI text k ⟨far + 1, t2, ns ++ [far - p], cvs ++ [.int v t'], n'⟩ ∧ far + 1 ≤ text.length) ∧ (((cl text).drop far).take 2 ≠ [92, 34] → ChI text k ⟨far, t2, ns ++ [far - p], cvs ++ [.int v t'], n'⟩) ∧ p < far := by
  obtain ⟨a1, a2, a3, a4, a5⟩ := h
  obtain ⟨b1, b2, b3⟩ := hf
  dsimp only at a1 a2 a3 a4 a5 b1 b2 b3
  subst hv
  have hlt : p < far := by
    rcases Nat.lt_or_ge p far with q | q
    · exact q
    · have : p = far := by omega
      subst this
      exact absurd hq h1
  have hint : IntsAre (cvs ++ [.int ((far - p : Nat) : Int) t']) ((ns ++ [far - p]).map fun (k : Nat) => (k : Int)) := by
    rw [List.map_append]
    exact a3.append (.cons _ _ .nil)
  refine ⟨fun h2 => ?_, fun h2 => ?_, hlt⟩
  · have hfl : far + 1 ≤ text.length := by
      have := congrArg List.length h2
      rw [List.length_take, List.length_drop, ← len_cl] at this
      simp at this
      omega
    refine ⟨⟨by dsimp only; omega, hfl, hint, ?_, ?_⟩, hfl⟩
    · dsimp only
      simp only [List.length_append, List.length_singleton]
      omega
    · intro ns' rest hc
      rw [List.append_assoc]
      exact a5 _ _ (chain_on hlt b3 h2 hc)
  · refine ⟨by dsimp only; omega, b2, hint, ?_, ?_⟩
    · dsimp only
      simp only [List.length_append, List.length_singleton]
      omega
    · intro ns' rest hc
      rw [List.append_assoc]
      exact a5 _ _ (chain_end hlt b3 h1 h2 hc)
structure LvS where
  text : Str
  tt : Tok
  vs : List Value
  nl : Nat
  own : List (Addr × Obj)
theorem lv_end {B : Heap → Prop} {h : Heap} {m₀ m' : Str → Option Value} {stored : List Str} {news : List (Addr × Obj)} {x0 x1 x2 : Addr × Obj} {T la lv : Addr} {told text₀ text text' : Str} {tj t' : Tok} {cvs vs : List Value} {nc nl nt tk : Nat} {own : List (Addr × Obj)} {k p : Nat} {ns : List Nat}
    (hB : B g) (F : Fr g L h m') (N : News g L h (x0 :: (T, ({ cls := .type "tuple", data := .seq #[.str told tj, .ref la] nt } : Obj)) :: (la, listOf cvs.toArray nc) :: x1 :: x2 :: (lv, listOf (vs ++ [Value.ref T]).toArray (nl + 1)) :: (own ++ news)))
    (hk' : m' (Str.ofString "text") = some (.str text' t')) (hr : ∀ z, (∀ p ∈ [(Str.ofString "text", Value.str text' t')], z ≠ p.1) → stored.contains z = false → m' z = m₀ z) (hlT : lv < T ∧ lv < la)
    (hI : LvI text₀ text own lv vs) (hne : (text != Str.ofString "") = true) (hk : k ≤ text.length) (hpre : 34 ∉ (cl text).take k) (hat : k < text.length → (cl text)[k]? = some 34)
    (hp : p ≤ text.length) (hkp : k ≤ p) (h1 : esc ((cl text).take k) = true → Chn ((cl text).drop k) ns ((cl text).drop p)) (h0 : esc ((cl text).take k) = false → ns = [])
    (ht' : cl text' = if ns = [] then [] else (cl text).drop p) (hx : cl told = Lx ((cl text).take k)) (hi : IntsAre cvs (ns.map fun (k : Nat) => (k : Int))) :
    LEndS B L s (fun c : LvS => (lv, listOf c.vs.toArray c.nl) :: (c.own ++ news)) (fun c => [(Str.ofString "text", .str c.text c.tt)]) stored m₀ (fun c' => LvI text₀ c'.text c'.own lv c'.vs ∧ c'.text.length < text.length) { s with heap := h, toks := tk } := by
  have hne' : cl text ≠ [] := by
    intro e
    have e2 : text = Str.ofString "" := by rw [e_is]; exact str_ext e
    rw [e2] at hne
    simp at hne
  refine lendS ⟨text', t', vs ++ [Value.ref T], nl + 1, (T, ({ cls := .type "tuple", data := .seq #[.str told tj, .ref la] nt } : Obj)) :: (la, listOf cvs.toArray nc) :: own⟩ hB F N (fun q hq => ?_) (fun q hq => ?_) hr (lvi_step hI hne' hk hpre hat hp hkp h1 h0 ht' (own' := (T, ({ cls := .type "tuple", data := .seq #[.str told tj, .ref la] nt } : Obj)) :: (la, listOf cvs.toArray nc) :: own) (fun q hq => .tail _ (.tail _ hq)) (fun q hq => ?_) (.head _) hx (.tail _ (.head _)) hi)
  · rcases List.mem_cons.mp hq with rfl | hq
    · exact .tail _ (.tail _ (.tail _ (.tail _ (.tail _ (.head _)))))
    rcases List.mem_cons.mp hq with rfl | hq
    · exact .tail _ (.head _)
    rcases List.mem_cons.mp hq with rfl | hq
    · exact .tail _ (.tail _ (.head _))
    · exact .tail _ (.tail _ (.tail _ (.tail _ (.tail _ (.tail _ hq)))))
  · rcases List.mem_singleton.mp hq with rfl
    exact hk'
  · rcases List.mem_cons.mp hq with rfl | hq
    · exact .inr hlT.1
    rcases List.mem_cons.mp hq with rfl | hq
    · exact .inr hlT.2
    · exact .inl hq
/-- what _law_levels hands back -/
abbrev RetL (news : List (Addr × Obj)) (text₀ : Str) (h₀ : Heap) (L : Addr) (m : Str → Option Value) (s : Shared) (Q : Value → Shared → Prop) : Prop :=
  ∀ (lv : Addr) (own : List (Addr × Obj)) (vs : List Value) (nl : Nat) (ls : List (List Nat × List Nat)) (h' : Heap) (tk' : Nat), LevsIn own vs ls → Lev (cl text₀) ls → (∀ q ∈ own, lv < q.1) → (∀ p ∈ news, p.1 < lv) → Fr h₀ L h' m → News h₀ L h' ((lv, listOf vs.toArray nl) :: (own ++ news)) → Q (.ref lv) { s with heap := h', toks := tk' }
end
end Mine
end

-- part Ln
section
open PySem PySem.W PyProof.Rows
namespace Mine
theorem P_len : ∀ (n : Nat) (l : List Nat), l.length ≤ n → (P l).length ≤ l.length
  | _, [], _ => Nat.le_refl _
  | 0, _ :: _, h => by simp at h
  | n + 1, c :: r, h => by
    simp only [List.length_cons] at h
    by_cases hc : c = 34
    · subst hc
      cases r with
      | nil => rw [P_q (by simp)]; exact Nat.zero_le _
      | cons d r =>
        rw [P_two]
        split
        · have := P_len n r (by simp only [List.length_cons] at h; omega)
          simp only [List.length_cons]; omega
        · exact Nat.zero_le _
    · rw [P_c hc]
      have := P_len n r (by omega)
      simp only [List.length_cons]; omega
theorem Pn_len : ∀ (n : Nat) (l : List Nat), (Pn n l).length ≤ l.length
  | 0, _ => Nat.le_refl _
  | n + 1, l => Nat.le_trans (Pn_len n (P l)) (P_len _ l (Nat.le_refl _))
theorem Pn_out : ∀ (n : Nat) (l : List Nat), Pn (n + 1) l = P (Pn n l)
  | 0, _ => rfl
  | n + 1, l => Pn_out n (P l)
theorem chn_len {l ns rest} (h : Chn l ns rest) : ns.length + rest.length ≤ l.length := by
  induction h with
  | stop => simp
  | last h => simp; omega
  | more h _ ih => simp at ih ⊢; omega
theorem lev_len {t ls} (h : Lev t ls) : ∀ x ∈ ls, x.1.length ≤ t.length ∧ x.2.length ≤ t.length := by
  induction h with
  | nil => intro x hx; cases hx
  | @even pre post =>
    intro x hx
    rw [List.mem_singleton.mp hx]
    have := Lx_len pre
    simp; omega
  | @gone pre =>
    intro x hx
    rw [List.mem_singleton.mp hx]
    have := Lx_len pre
    simp; omega
  | @odd pre post ch rest ls _ _ _ hc _ ih =>
    intro x hx
    have h1 := chn_len hc
    rw [List.length_append]
    rcases List.mem_cons.mp hx with rfl | hx
    · have := Lx_len pre
      dsimp only
      omega
    · have := ih x hx
      omega
noncomputable def Pfn : Nat → Str → Str
  | 0, x => x
  | n + 1, x => Pf (Pfn n x)
theorem cl_Pfn : ∀ (n : Nat) (x : Str), cl (Pfn n x) = Pn n (cl x)
  | 0, _ => rfl
  | n + 1, x => by
    rw [Pn_out, ← cl_Pfn n x]
    rfl
noncomputable def Lf (x : Str) : Str := ⟨(Lx (cl x)).toArray⟩
theorem Pf_len (x : Str) : (Pf x).length ≤ x.length := by
  rw [len_cl, len_cl]
  exact P_len _ _ (Nat.le_refl _)
theorem Lf_len (x : Str) : (Lf x).length ≤ x.length := by
  rw [len_cl, len_cl]
  exact Lx_len _
theorem Pfn_len (n : Nat) (x : Str) : (Pfn n x).length ≤ x.length := by
  rw [len_cl, len_cl, cl_Pfn]
  exact Pn_len _ _
/-- the law, of texts -/
theorem told_due {b a : Nat} {x : Str} {ls} (h : Lev (cl x) ls) : Pfn a (Lf (Pfn b x)) = Duef b a ls := by
  refine str_ext ?_
  rw [cl_Pfn]
  show Pn a (Lx (cl (Pfn b x))) = due b a ls
  rw [cl_Pfn]
  exact plain h
theorem due_len {b a : Nat} {x : Str} {ls} (h : Lev (cl x) ls) : (due b a ls).length ≤ x.length := by
  rw [← plain (b := b) (a := a) h, len_cl]
  exact Nat.le_trans (Pn_len _ _) (Nat.le_trans (Lx_len _) (Pn_len _ _))
end Mine
end

-- part X0
section
open PySem PySem.W PyProof.Rows PySem.Spec
namespace Mine
/-- a list's items are these signs -/
inductive Sg : List Value → List Nat → Prop
  | nil : Sg [] []
  | cons (c : Nat) (t : Tok) {vs : List Value} {l : List Nat} : Sg vs l → Sg (.str ⟨#[c]⟩ t :: vs) (c :: l)
theorem Sg.len : ∀ {vs : List Value} {l : List Nat}, Sg vs l → vs.length = l.length
  | _, _, .nil => rfl
  | _, _, .cons _ _ h => by simp [h.len]
theorem sg_of : ∀ {ys : List Value} {l : List Nat}, CarriedAll ys ((l.map fun n => (⟨#[n]⟩ : Str)).map PyData.str) → Sg ys l
  | _, [], h => by cases h; exact .nil
  | _, c :: l, h => by
    cases h with
    | cons h1 h2 =>
      cases h1
      exact .cons _ _ (sg_of h2)
/-- all of these addresses lie below -/
structure BelowA (d : Addr) (news : List (Addr × Obj)) : Prop where
  h : ∀ p ∈ news, p.1 < d
section
variable {prog : Program} {w : World} {A : Around} {E : Value → Shared → Prop} {s : Shared} {h₀ : Heap} {L : Addr} {m : Str → Option Value} {news : List (Addr × Obj)}
theorem list_signs {x : Str} {t : Tok} {Q : Value → Shared → Prop} (hh : A.handled = none) (F : Fr h₀ L s.heap m) (N : News h₀ L s.heap news) (hsz : x.length ≤ sizeLine)
    (h : ∀ l h' tk ys n, Sg ys (cl x) → Fr h₀ L h' m → News h₀ L h' ((l, listOf ys.toArray n) :: news) → (∀ p ∈ news, p.1 < l) → Q (.ref l) { s with heap := h', toks := tk }) :
    wpAny (model prog w) A (call (.type "list") [.str x t]) Q E s := by
  refine list_strD hh F N (fun h' tk ys F' N' _ hno _ hp hc => ?_) hsz
  obtain ⟨⟨n, hn⟩, _⟩ := hp
  refine h _ h' tk ys n (sg_of hc) F' (fun p hp => ?_) (fun p hp => Heap.lt_size (N p hp).1)
  rcases List.mem_cons.mp hp with rfl | hp
  · exact ⟨hn, Nat.ne_of_gt F.ns.lt, hno⟩
  · exact N' p hp
end
/-- these addresses are not d -/
noncomputable def AllNe (d : Nat) : List (Addr × Obj) → Prop
  | [] => True
  | p :: r => @Ne Nat p.1 d ∧ AllNe d r
theorem allNe_of {d : Addr} : ∀ {l : List (Addr × Obj)}, (∀ p ∈ l, p.1 ≠ d) → AllNe d l
  | [], _ => trivial
  | p :: _, h => ⟨h p (.head _), allNe_of fun q hq => h q (.tail _ hq)⟩
/-- the table of the inner code: empty, or it holds the lambda's code, which lies in the ledger -/
def LamTab (qual : Str) (line col : Int) (ps : Array Value) (news : List (Addr × Obj)) : Prop :=
  ps = #[] ∨ ∃ c' oc vs t, ps = #[rawInt line, rawInt col, .ref c'] ∧ (c', oc) ∈ news ∧ oc.data = .fields vs ∧ vs[1]? = some (.str qual t)
section
variable {M : Model} {A : Around} {E : Value → Shared → Prop} {s : Shared} {h₀ : Heap} {L a c P : Addr} {m mg mb : Str → Option Value} {cn : Str} {cs : Scope} {ccd : Value} {cl : List (Str × Addr)} {pre news : List (Addr × Obj)}
  {p : Program} {loose : List Str} {mean : ExcName → Option Value} {name qual : Str} {params : Arguments} {body : Expr} {scope : Scope} {ps : Array Value} {pos : Pos} {firstLine : Nat} {clos : List (Str × Addr)}
theorem lam_either {Q : Value → Shared → Prop} {d : Addr} (F : Fr h₀ L s.heap m) (N : News h₀ L s.heap (pre ++ (P, tabObj ps) :: news)) (T : Top p loose mean mg mb h₀) (C : CodeHd h₀ c P) (hcd : ccd = .ref c) (h1 : ∀ q ∈ pre, d ≤ q.1) (h2 : ∀ q ∈ (P, tabObj ps) :: news, q.1 < d) (h3 : ∀ q ∈ news, q.1 ≠ P) (hps : LamTab qual pos.line pos.col ps news)
    (hcl : closureFor scope (envX cn cs L a ccd cl) = pure clos)
    (h : ∀ f c' oc vs t ctv h' tk, Fr h₀ L h' m →
      News h₀ L h' ((f, kla_obj name qual params body scope clos ((mg "__name__").getD .none) c' ctv) :: (c', oc) :: (pre ++ (P, tabObj #[rawInt pos.line, rawInt pos.col, .ref c']) :: news)) →
      oc.data = .fields vs → vs[1]? = some (.str qual t) → (∀ q ∈ pre ++ (P, tabObj ps) :: news, q.1 < f) → c' < f → AllNe c' pre → @Ne Nat c' P → Q (.ref f) { s with heap := h', toks := tk }) :
    wpAny M A (makeFunction name qual params (.expr body) scope (envX cn cs L a ccd cl) [] [] [] pos firstLine) Q E s := by
  have hP : ∀ q ∈ pre, q.1 ≠ P := fun q hq => Nat.ne_of_gt (Nat.lt_of_lt_of_le (h2 _ (.head _)) (h1 q hq))
  rcases hps with rfl | ⟨c', oc, vs, t, rfl, hm, hd, hv⟩
  · have U : ∀ (l : List (Addr × Obj)), (∀ q ∈ l, q.1 ≠ P) → UpdF P (tabObj #[]) (l ++ (P, tabObj #[]) :: news) (fun o' => l ++ (P, o') :: news) := by
      intro l
      induction l with
      | nil => exact fun _ => .head h3
      | cons q r ih => exact fun hl => .tail (hl q (.head _)) (ih fun x hx => hl x (.tail _ hx))
    refine kla_nest F N T C hcd (U pre hP) trivial rfl hcl fun f c' oc vs t ctv h' tk F' N' hd hv hlt hcf => ?_
    exact h f c' oc vs t ctv h' tk F' N' hd hv (fun q hq => Nat.lt_trans (hlt q hq) hcf) hcf (allNe_of fun q hq => Nat.ne_of_lt (hlt q (List.mem_append_left _ hq))) (Nat.ne_of_gt (hlt (P, tabObj #[]) (List.mem_append_right _ (.head _))))
  · have hlt : c' < d := h2 (c', oc) (.tail _ hm)
    have hf : codeAmong pos (#[rawInt (pos.line : Int), rawInt (pos.col : Int), Value.ref c'] : Array Value).toList = some (.ref c') := by
      simp [codeAmong, rawInt]
    have ht : TriplesOk (#[rawInt (pos.line : Int), rawInt (pos.col : Int), Value.ref c'] : Array Value).toList := by simp [TriplesOk, rawInt]
    refine kla_hit F N T C hcd (List.mem_append_right _ (.head _)) ht hf hcl fun f ctv h' tk F' N' hlt' => ?_
    refine h f c' oc vs t ctv h' tk F' (fun q hq => ?_) hd hv hlt' (hlt' (c', oc) (List.mem_append_right _ (.tail _ hm))) (allNe_of fun q hq => Nat.ne_of_gt (Nat.lt_of_lt_of_le hlt (h1 q hq))) (h3 _ hm)
    rcases List.mem_cons.mp hq with rfl | hq
    · exact N' _ (.head _)
    rcases List.mem_cons.mp hq with rfl | hq
    · exact N' _ (.tail _ (List.mem_append_right _ (.tail _ hm)))
    · exact N' _ (.tail _ hq)
end
end Mine
end

-- part X2
section
open PySem PySem.W PyProof.Rows PySem.Spec PySem.F PySem.Calls
set_option maxRecDepth 100000
namespace Mine
theorem slot_ci_iter : Slot "callable_iterator" "__iter__" "callable_iterator.__iter__" :=
  .of (owner := "callable_iterator") (n := "__iter__") (by rw [typeLookup_type, builtinLookup_eq_fast]; kernel_rfl) (by decide +kernel) (by decide +kernel) (by decide +kernel)
    (by first | exact .inl (by decide +kernel) | exact .inr (by decide +kernel)) (by rw [isSubtype_type]; kernel_rfl)
theorem slot_ci_next : Slot "callable_iterator" "__next__" "callable_iterator.__next__" :=
  .of (owner := "callable_iterator") (n := "__next__") (by rw [typeLookup_type, builtinLookup_eq_fast]; kernel_rfl) (by decide +kernel) (by decide +kernel) (by decide +kernel)
    (by first | exact .inl (by decide +kernel) | exact .inr (by decide +kernel)) (by rw [isSubtype_type]; kernel_rfl)
theorem entry_ci_next : entryFor table "callable_iterator.__next__" = some Builtin.«callable_iterator.__next__» := entryFor_of_tree (by kernel_rfl)
theorem owner_ci : Manifest.owners.lookup (String.ofList ['r', 'o', 't', 'a', 'r', 'e', 't', 'i', '_', 'e', 'l', 'b', 'a', 'l', 'l', 'a', 'c'].reverse.reverse.reverse) = some Manifest.sig_callable_iterator := by kernel_rfl
theorem args_ci_next (a : Value) : argsOk "callable_iterator.__next__" ⟨[a], []⟩ := by
  unfold argsOk; rw [signature?_of (id := "callable_iterator.__next__") (n := ['_', '_', 't', 'x', 'e', 'n', '_', '_']) (o := ['r', 'o', 't', 'a', 'r', 'e', 't', 'i', '_', 'e', 'l', 'b', 'a', 'l', 'l', 'a', 'c']) (by kernel_rfl) owner_ci]; kernel_rfl
theorem args_ci_iter (a : Value) : argsOk "callable_iterator.__iter__" ⟨[a], []⟩ := by
  unfold argsOk; rw [signature?_of (id := "callable_iterator.__iter__") (n := ['_', '_', 'r', 'e', 't', 'i', '_', '_']) (o := ['r', 'o', 't', 'a', 'r', 'e', 't', 'i', '_', 'e', 'l', 'b', 'a', 'l', 'l', 'a', 'c']) (by kernel_rfl) owner_ci]; kernel_rfl
theorem entry_ci_iter : entryFor table "callable_iterator.__iter__" = some Builtin.«dict_keyiterator.__iter__» :=
  entryFor_alias (id' := "dict_keyiterator.__iter__") (by kernel_rfl) (by first | rfl | decide +kernel | (unfold String.splitOn; simp +decide [String.splitOnAux])) (by decide +kernel) (by kernel_rfl)
theorem args_iter_2 (a b : Value) : argsOk "iter" ⟨[a, b], []⟩ := by unfold argsOk; kernel_rfl
theorem lookup_method_call : typeLookup (.type "method") (Str.ofString "__call__") = pure (some (.builtin "method.__call__")) := by rw [typeLookup_type, builtinLookup_eq_fast]; kernel_rfl
abbrev ciObj (f snt : Value) (b : Bool) : Obj := { cls := .type "callable_iterator", data := .fields #[f, snt, .bool b] }
section
variable {prog : Program} {w : World} {A : Around} {E : Value → Shared → Prop} {s : Shared}
theorem call_borrowed {M : Model} {f : Value} {pos : List Value} {Q : Value → Shared → Prop} (h : wpAny M A (call f pos) Q E s) : wpAny M A (callBorrowed f pos) Q E s := fun Γ p hΓ => by
  have := h Γ p hΓ
  rw [Sem.wp_cmd_call] at this
  unfold callBorrowed
  rw [Sem.wp_call]
  refine wpCode_mono (fun r s' hr => ?_) this
  cases r with
  | error e => exact hr
  | ok fl => cases fl <;> exact hr
theorem iter_two {q : Addr} {x : Str} {t : Tok} {fm : Value} {self : Value} {Q : Value → Shared → Prop} (hq : s.heap.get? q = some (methodObj fm self))
    (h : Q (.ref s.heap.objs.size) { s with heap := s.heap.push (ciObj (.ref q) (.str x t) false) }) :
    wpAny (model prog w) A (call (.builtin "iter") [.ref q, .str x t]) Q E s := by
  refine call_function_entry (by decide +kernel) (by decide +kernel) kdk_entry_iter (args_iter_2 _ _) ?_
  unfold Builtin.«iter»
  refine wpAny_bind (m := someArgs "iter" 1 2 _) (wpAny_of_eq (a := [Value.ref q, Value.str x t]) (by first | rfl | kernel_rfl!) ?_)
  dsimp only
  refine wpAny_bind (wpAny_specialOf (T := "method") ⟨_, hq, rfl⟩ lookup_method_call ?_)
  refine wpAny_ite_split (fun hab => absurd hab (by simp)) (fun _ => ?_)
  refine wpAny_bind (wpAny_rule ?_)
  refine wpAny_bind ?_
  unfold newFields
  exact wpAny_newObj_type (wpAny_pure ⟨_, rfl, h⟩) (by size_fits)
theorem iter_ci {I : Addr} {f snt : Value} {b : Bool} {Q : Value → Shared → Prop} (hI : s.heap.get? I = some (ciObj f snt b)) (h : Q (.ref I) s) : wpAny (model prog w) A (pyIter (.ref I)) Q E s := by
  have hT : s.TypeIs (.ref I) "callable_iterator" := ⟨_, hI, rfl⟩
  refine wpAny_pyIter_slot hT slot_ci_iter (wpAny_call_entry slot_ci_iter hT entry_ci_iter ?_ (args_ci_iter _))
  show wpAny _ _ (ret (.ref I)) _ _ s
  exact wpAny_pure ⟨_, rfl, "callable_iterator", _, hT, slot_ci_next.lookup, h⟩
theorem borrows {q fn : Addr} {self : Value} {of : Obj} {fd : FuncData} {Q : Bool → Shared → Prop} (hq : s.heap.get? q = some (methodObj (.ref fn) self)) (hf : s.heap.get? fn = some of) (hd : of.data = .func fd) (h : Q true s) :
    wpAny (model prog w) A (borrowsExactly (.ref q)) Q E s := by
  unfold borrowsExactly
  dsimp only
  refine wpAny_bind (wpAny_load hq ?_)
  dsimp only
  refine wpAny_ite_split (fun _ => ?_) (fun hab => absurd hab (by simp))
  refine wpAny_bind (wpAny_load hf ?_)
  rw [hd]
  exact wpAny_pure h
theorem stop_ci {α : Type} {Q : α → Shared → Prop} (hh : A.handled = none) (h : ∀ h' e, (∀ b o, s.heap.get? b = some o → h'.get? b = some o) → (∃ o, h'.get? e = some o ∧ o.cls = .type "StopIteration") → E (.ref e) { s with heap := h' }) :
    wpAny (model prog w) A.in1 (Builtin.SmallTypes.stopIteration : Sem α) Q E s := by
  show wpAny _ _ (newExc (.type "StopIteration") [] >>= _) _ _ _
  refine wpAny_bind ?_
  simp only [newExc, newTuple]
  refine wpAny_bind (wpAny_newObj_type ?_ (by size_fits))
  refine wpAny_bind (m := firstArgMember _ _) (wpAny_of_eq (a := Value.none) (by first | rfl | (simp only [firstArgMember]; rfl)) ?_)
  refine wpAny_newObj_type ?_ (by size_fits)
  simp only [raiseNew]
  refine wpAny_bind (wpAny_handled ?_)
  first | rw [show A.in1.handled = none from hh] | rw [hh]
  refine wpAny_bind (wpAny_pure (wpAny_throw ?_))
  exact h _ _ (fun b o e => Heap.get?_push_of_some _ (Heap.get?_push_of_some _ e)) ⟨_, Heap.get?_push_size _ rfl, rfl⟩
theorem ci_next {I q fn : Addr} {self : Value} {x : Str} {t : Tok} {of : Obj} {fd : FuncData} {Q : Option Value → Shared → Prop} (hh : A.handled = none) (hI : s.heap.get? I = some (ciObj (.ref q) (.str x t) false)) (hq : s.heap.get? q = some (methodObj (.ref fn) self)) (hf : s.heap.get? fn = some of) (hd : of.data = .func fd)
    (h : wpAny (model prog w) A.in1 (call (.ref q) []) (fun r s₁ => ∃ y u, r = .str y u ∧ s₁.heap.get? I = some (ciObj (.ref q) (.str x t) false) ∧ s₁.heap.get? q = some (methodObj (.ref fn) self) ∧ s₁.heap.get? fn = some of ∧
      (y ≠ x → Q (some r) s₁) ∧ (y = x → ∀ h', Heap.ExtBut I s₁.heap h' → h'.get? I = some (ciObj .none .none true) → Q none { s₁ with heap := h' })) (fun _ _ => False) s) :
    wpAny (model prog w) A (pyNext (.ref I)) Q E s := by
  have hT : s.TypeIs (.ref I) "callable_iterator" := ⟨_, hI, rfl⟩
  unfold pyNext
  refine wpAny_bind (wpAny_attempt (wpAny_callSpecial?_slot (name := Str.ofString "__next__") hT slot_ci_next
    (wpAny_call_entry slot_ci_next hT entry_ci_next ?_ (args_ci_next _))))
  show wpAny _ _ (field (.ref I) 2 >>= _) _ _ _
  refine wpAny_bind (wpAny_field hI rfl (x := .bool false) rfl ?_)
  refine wpAny_ite_split (fun hab => absurd hab (by simp)) (fun _ => ?_)
  refine wpAny_bind (wpAny_field hI rfl (x := .ref q) rfl ?_)
  refine wpAny_bind (wpAny_attempt ?_)
  unfold callOutOfASlot
  refine wpAny_bind (borrows hq hf hd ?_)
  refine wpAny_ite_split (fun _ => ?_) (fun hab => absurd rfl hab)
  refine call_borrowed (wpAny_mono h (fun r s₁ h₁ => ?_) fun _ _ e => e.elim)
  obtain ⟨y, u, rfl, hI₁, hq₁, hf₁, hne, heq⟩ := h₁
  dsimp only
  refine wpAny_bind (wpAny_field hI₁ rfl (x := .bool false) rfl ?_)
  refine wpAny_ite_split (fun hab => absurd hab (by simp)) (fun _ => ?_)
  refine wpAny_bind (wpAny_field hI₁ rfl (x := .str x t) rfl ?_)
  refine wpAny_bind (wpAny_holding (eqBool_str ?_))
  by_cases hxy : x = y
  · subst hxy
    refine wpAny_ite_split (fun hab => absurd hab (by simp)) (fun _ => ?_)
    refine wpAny_bind (wpAny_rule ?_)
    refine wpAny_bind ?_
    show wpAny _ _ (field (Value.ref I) 0 >>= _) _ _ _
    refine wpAny_bind (wpAny_field hI₁ rfl (x := .ref q) rfl ?_)
    refine wpAny_bind ?_
    unfold slotLetsGo
    dsimp only
    refine wpAny_bind (borrows hq₁ hf₁ hd ?_)
    refine wpAny_ite_split (fun _ => ?_) (fun hab => absurd rfl hab)
    refine wpAny_pure ?_
    refine wpAny_bind (wpAny_setField_rec hI₁ (by simp) fun h₂ he₂ hs₂ => ?_)
    replace hs₂ : Heap.SameBut I s₁.heap h₂ := hs₂
    refine wpAny_bind (wpAny_setField_rec he₂ (by simp) fun h₃ he₃ hs₃ => ?_)
    replace hs₃ : Heap.SameBut I h₂ h₃ := hs₃
    refine wpAny_setField_rec he₃ (by simp) fun h₄ he₄ hs₄ => ?_
    replace hs₄ : Heap.SameBut I h₃ h₄ := hs₄
    refine stop_ci hh fun h' e hk he => ?_
    dsimp only
    obtain ⟨o, ho, hc⟩ := he
    refine wpAny_bind (wpAny_isInstance (T := "StopIteration") (b := true) ⟨o, ho, hc⟩ isSubtype_stop ?_)
    refine wpAny_pure (heq rfl h' (fun b o hb e => hk _ _ (hs₄.extBut b o hb (hs₃.extBut b o hb (hs₂.extBut b o hb e)))) (hk _ _ ?_))
    rw [he₄]
    rfl
  · refine wpAny_ite_split (fun _ => ?_) (fun hab => absurd (by simpa using hxy) hab)
    exact wpAny_pure ⟨_, rfl, wpAny_pure (hne (fun e => hxy e.symm))⟩
/-- it has ended -/
theorem ci_ended {I : Addr} {Q : Option Value → Shared → Prop} (hh : A.handled = none) (hI : s.heap.get? I = some (ciObj .none .none true)) (h : ∀ h', (∀ b o, s.heap.get? b = some o → h'.get? b = some o) → Q none { s with heap := h' }) :
    wpAny (model prog w) A (pyNext (.ref I)) Q E s := by
  have hT : s.TypeIs (.ref I) "callable_iterator" := ⟨_, hI, rfl⟩
  unfold pyNext
  refine wpAny_bind (wpAny_attempt (wpAny_callSpecial?_slot (name := Str.ofString "__next__") hT slot_ci_next
    (wpAny_call_entry slot_ci_next hT entry_ci_next ?_ (args_ci_next _))))
  show wpAny _ _ (field (.ref I) 2 >>= _) _ _ _
  refine wpAny_bind (wpAny_field hI rfl (x := .bool true) rfl ?_)
  refine wpAny_ite_split (fun _ => ?_) (fun hab => absurd rfl hab)
  refine wpAny_bind (wpAny_rule ?_)
  refine wpAny_bind (stop_ci hh fun h' e hk he => ?_)
  dsimp only
  obtain ⟨o, ho, hc⟩ := he
  refine wpAny_bind (wpAny_isInstance (T := "StopIteration") (b := true) ⟨o, ho, hc⟩ isSubtype_stop ?_)
  exact wpAny_pure (h h' hk)
variable {h₀ : Heap} {L : Addr} {m : Str → Option Value} {news : List (Addr × Obj)}
theorem iter_K {q : Addr} {x : Str} {t : Tok} {fm self : Value} {Q : Value → Shared → Prop} (F : Fr h₀ L s.heap m) (N : News h₀ L s.heap news) (hq : (q, methodObj fm self) ∈ news)
    (h : ∀ I h', Fr h₀ L h' m → News h₀ L h' ((I, ciObj (.ref q) (.str x t) false) :: news) → (∀ p ∈ news, p.1 < I) → Q (.ref I) { s with heap := h' }) :
    wpAny (model prog w) A (call (.builtin "iter") [.ref q, .str x t]) Q E s :=
  iter_two (N _ hq).1 (h _ _ (F.push _) (News.push F N _ rfl) fun p hp => Heap.lt_size (N p hp).1)
end
end Mine
end

-- part X3
section
open PySem PySem.W PyProof.Rows PySem.Spec
namespace Mine
/-- what is read: the next sign, or nothing -/
def RdV (l : List Nat) (r : Str) (vs' : List Value) : Prop := match l with
  | [] => cl r = [] ∧ Sg vs' []
  | c :: l' => cl r = [c] ∧ Sg vs' l'
def RdC (M : Model) (A : Around) (g : Heap) (L : Addr) (fn : Addr) (self : Value) (pre : List (Addr × Obj)) (d2 : Addr) (D : Int → Tok → Obj) (mid : List (Addr × Obj)) (lst : Addr) (post : List (Addr × Obj)) : Prop :=
  ∀ (s : Shared) (vs : List Value) (l : List Nat) (n : Nat) (k : Int) (kt : Tok) (m : Str → Option Value) (Q E : Value → Shared → Prop), Sg vs l → 0 ≤ k → k + (l.length : Int) ≤ 2000 → Fr g L s.heap m →
    News g L s.heap (pre ++ (d2, D k kt) :: (mid ++ (lst, listOf vs.toArray n) :: post)) →
    (∀ (r : Str) (u : Tok) (h' : Heap) (tk' : Nat) (vs' : List Value) (n' : Nat) (k' : Int) (kt' : Tok), RdV l r vs' → 0 ≤ k' → k' + (l.tail.length : Int) ≤ 2000 → Fr g L h' m →
      News g L h' (pre ++ (d2, D k' kt') :: (mid ++ (lst, listOf vs'.toArray n') :: post)) → Q (.str r u) { s with heap := h', toks := tk' }) →
    codeAny M A (.call (.ref fn) ⟨[self], []⟩) (fun r s' => match r with | .ok (.ret v) => Q v s' | .ok _ => False | .error e => E e s') s
theorem rd_cut {M : Model} {A : Around} {g : Heap} {L d2 lst q fn : Addr} {self : Value} {e1 e3 e4 f1 f2 f3 f4 f5 : Addr × Obj} {hk : Int} {kk : Value} {k0 : Int} {kt0 : Tok} {es : List DictEntry} {nn n : Nat} {vs : List Value} {post : List (Addr × Obj)}
    {st : Stmt} {env : Env} {Q : Flow → Shared → Prop} {E : Value → Shared → Prop} {s : Shared}
    (_N : News g L s.heap (e1 :: (q, methodObj (.ref fn) self) :: e3 :: e4 :: (d2, dictOf (⟨hk, kk, .int k0 kt0⟩ :: es) nn) :: f1 :: f2 :: f3 :: f4 :: f5 :: (lst, listOf vs.toArray n) :: post))
    (rd : RdC M A.in1 g L fn self [e1, (q, methodObj (.ref fn) self), e3, e4] d2 (fun k kt => dictOf (⟨hk, kk, .int k kt⟩ :: es) nn) [f1, f2, f3, f4, f5] lst post)
    (rest : RdC M A.in1 g L fn self [e1, (q, methodObj (.ref fn) self), e3, e4] d2 (fun k kt => dictOf (⟨hk, kk, .int k kt⟩ :: es) nn) [f1, f2, f3, f4, f5] lst post → wpAny M A (exec st env) Q E s) : wpAny M A (exec st env) Q E s := rest rd
end Mine
end

-- part X4
section
open PySem PySem.W PyProof.Rows PySem.Spec
set_option maxRecDepth 100000
namespace Mine
theorem fr_but {g h h' : Heap} {L I : Addr} {m : Str → Option Value} (F : Fr g L h m) (hI : I ≠ L) (hg : g.get? I = none) (hx : Heap.ExtBut I h h') : Fr g L h' m :=
  ⟨F.ns.extBut hx hI.symm, fun b o e => hx b o (fun q => by rw [q, hg] at e; cases e) (F.keep b o e), F.above⟩
theorem fr_more {g h h' : Heap} {L : Addr} {m : Str → Option Value} (F : Fr g L h m) (hx : ∀ b o, h.get? b = some o → h'.get? b = some o) : Fr g L h' m :=
  ⟨F.ns.at' fun o e => hx _ o e, fun b o e => hx b o (F.keep b o e), F.above⟩
theorem news_more {g h h' : Heap} {L : Addr} {news : List (Addr × Obj)} (N : News g L h news) (hx : ∀ b o, h.get? b = some o → h'.get? b = some o) : News g L h' news :=
  fun p hp => ⟨hx _ _ (N p hp).1, (N p hp).2⟩
/-- the ledger of the reader, its iterator at the head -/
abbrev CiL (I : Addr) (io : Obj) (q fn : Addr) (self : Value) (pre : List (Addr × Obj)) (d2 : Addr) (D : Int → Tok → Obj) (mid : List (Addr × Obj)) (lst : Addr) (post : List (Addr × Obj)) (k : Int) (kt : Tok) (vs : List Value) (n : Nat) : List (Addr × Obj) :=
  ((I, io) :: (q, methodObj (.ref fn) self) :: pre) ++ (d2, D k kt) :: (mid ++ (lst, listOf vs.toArray n) :: post)
abbrev Live (et : Tok) (q : Addr) : Obj := ciObj (.ref q) (.str (Str.ofString "") et) false
abbrev Ended : Obj := ciObj .none .none true
section
variable {prog : Program} {w : World} {A : Around} {E : Value → Shared → Prop} {s : Shared} {env : Env} {g : Heap} {L I q fn d2 lst : Addr} {self : Value} {et : Tok} {of : Obj} {fd : FuncData} {D : Int → Tok → Obj} {pre mid post : List (Addr × Obj)}
theorem ci_read {vs : List Value} {l : List Nat} {n : Nat} {k : Int} {kt : Tok} {m : Str → Option Value} {Q : Option Value → Shared → Prop}
    (rd : RdC (model prog w) A.in1 g L fn self ((I, Live et q) :: (q, methodObj (.ref fn) self) :: pre) d2 D mid lst post) (hh : A.handled = none)
    (hfn : g.get? fn = some of) (hd : of.data = .func fd)
    (hne : ∀ p ∈ (q, methodObj (.ref fn) self) :: (pre ++ (d2, D 0 0) :: (mid ++ (lst, listOf #[] 0) :: post)), p.1 ≠ I)
    (F : Fr g L s.heap m) (N : News g L s.heap (CiL I (Live et q) q fn self pre d2 D mid lst post k kt vs n)) (hS : Sg vs l) (hk0 : 0 ≤ k) (hk1 : k + (l.length : Int) ≤ 2000)
    (item : ∀ a l' u h' tk' vs' n' k' kt', l = a :: l' → Sg vs' l' → 0 ≤ k' → k' + (l'.length : Int) ≤ 2000 → Fr g L h' m → News g L h' (CiL I (Live et q) q fn self pre d2 D mid lst post k' kt' vs' n') → Q (some (.str ⟨#[a]⟩ u)) { s with heap := h', toks := tk' })
    (fin : ∀ h' tk' n' k' kt', l = [] → Fr g L h' m → News g L h' (CiL I Ended q fn self pre d2 D mid lst post k' kt' [] n') → Q none { s with heap := h', toks := tk' }) :
    wpAny (model prog w) A (pyNext (.ref I)) Q E s := by
  refine ci_next hh (N _ (.head _)).1 (N _ (.tail _ (.head _))).1 (F.keep _ _ hfn) hd ?_
  refine call_meth N (.tail _ (.head _)) ?_
  refine rd s vs l n k kt m _ _ hS hk0 hk1 F N ?_
  intro r u h' tk' vs' n' k' kt' hr hk0' hk1' F' N'
  refine ⟨r, u, rfl, (N' _ (.head _)).1, (N' _ (.tail _ (.head _))).1, F'.keep _ _ hfn, fun hy => ?_, fun hy h₂ hx hI => ?_⟩
  · cases l with
    | nil =>
      refine absurd (str_ext ?_) hy
      rw [e_is]
      exact hr.1
    | cons a l' =>
      have e : r = ⟨#[a]⟩ := str_ext hr.1
      subst e
      exact item a l' u h' tk' vs' n' k' kt' rfl hr.2 hk0' hk1' F' N'
  · cases l with
    | cons a l' =>
      have e : r = ⟨#[a]⟩ := str_ext hr.1
      rw [e, e_is] at hy
      cases hy
    | nil =>
      have hv : vs' = [] := by cases hr.2; rfl
      subst hv
      have hI0 := N' _ (.head _)
      refine fin h₂ tk' n' k' kt' rfl (fr_but F' hI0.2.1 hI0.2.2 hx) fun p hp => ?_
      rcases List.mem_cons.mp hp with rfl | hp
      · exact ⟨hI, hI0.2⟩
      · have hpI : p.1 ≠ I := by
          simp only [List.mem_append, List.mem_cons, List.append_eq] at hp hne
          rcases hp with (rfl | hp) | rfl | hp | rfl | hp
          · exact hne _ (.inl rfl)
          · exact hne _ (.inr (.inl hp))
          · exact hne (d2, D 0 0) (.inr (.inr (.inl rfl)))
          · exact hne _ (.inr (.inr (.inr (.inl hp))))
          · exact hne (lst, listOf #[] 0) (.inr (.inr (.inr (.inr (.inl rfl)))))
          · exact hne _ (.inr (.inr (.inr (.inr (.inr hp)))))
        have := N' p (.tail _ hp)
        exact ⟨hx _ _ hpI this.1, this.2⟩
end
end Mine
end

-- part X5
section
open PySem PySem.W PyProof.Rows PySem.Spec
set_option maxRecDepth 100000
namespace Mine
section
variable {prog : Program} {w : World} {A : Around} {E : Value → Shared → Prop} {Q : Flow → Shared → Prop} {s : Shared} {env : Env} {g : Heap} {L I q fn d2 lst : Addr} {self : Value} {et : Tok} {of : Obj} {fd : FuncData} {D : Int → Tok → Obj} {pre mid post : List (Addr × Obj)}
/-- self._read_char(), called straight -/
theorem rd_call {M : Model} {e1 : Addr × Obj} {vs : List Value} {l : List Nat} {n : Nat} {k : Int} {kt : Tok} {m : Str → Option Value} {Q : Value → Shared → Prop}
    (rd : RdC M A.in1 g L fn self (e1 :: pre) d2 D mid lst post) (hS : Sg vs l) (hk0 : 0 ≤ k) (hk1 : k + (l.length : Int) ≤ 2000)
    (F : Fr g L s.heap m) (N : News g L s.heap ((e1 :: pre) ++ (d2, D k kt) :: (mid ++ (lst, listOf vs.toArray n) :: post)))
    (h : ∀ (r : Str) (u : Tok) (h' : Heap) (tk' : Nat) (vs' : List Value) (n' : Nat) (k' : Int) (kt' : Tok), cl r = l.take 1 → Sg vs' l.tail → 0 ≤ k' → k' + (l.tail.length : Int) ≤ 2000 → Fr g L h' m →
      News g L h' ((e1 :: pre) ++ (d2, D k' kt') :: (mid ++ (lst, listOf vs'.toArray n') :: post)) → Q (.str r u) { s with heap := h', toks := tk' }) :
    wpAny M A (call (.ref fn) [self]) Q E s := by
  refine wpAny_of_in1 (wpAny_call (rd s vs l n k kt m _ _ hS hk0 hk1 F N ?_))
  intro r u h' tk' vs' n' k' kt' hr h0 h1 F' N'
  refine h r u h' tk' vs' n' k' kt' ?_ ?_ h0 h1 F' N'
  · cases l with
    | nil => exact hr.1
    | cons a l => exact hr.1
  · cases l with
    | nil => exact hr.2
    | cons a l => exact hr.2
/-- a turn's end -/
def CiEnd {σ : Type} (g : Heap) (L : Addr) (s : Shared) (Led : Int → Tok → List Value → Nat → List (Addr × Obj)) (ps : σ → List (Str × Value)) (stored : List Str) (m₀ : Str → Option Value) (P : List Nat → σ → Prop) (b : Nat) (s₂ : Shared) : Prop :=
  ∃ (l' : List Nat) (c' : σ) (h' : Heap) (tk' : Nat) (m' : Str → Option Value) (vs' : List Value) (n' : Nat) (k' : Int) (kt' : Tok), s₂ = { s with heap := h', toks := tk' } ∧ l'.length ≤ b ∧ Sg vs' l' ∧ 0 ≤ k' ∧ k' + (l'.length : Int) ≤ 2000 ∧ Fr g L h' m' ∧ News g L h' (Led k' kt' vs' n') ∧
    (∀ p ∈ ps c', m' p.1 = some p.2) ∧ (∀ z, (∀ p ∈ ps c', z ≠ p.1) → stored.contains z = false → m' z = m₀ z) ∧ P l' c'
def CiPost {σ : Type} (g : Heap) (L : Addr) (s : Shared) (Led : Int → Tok → List Value → Nat → List (Addr × Obj)) (ps : σ → List (Str × Value)) (stored : List Str) (m₀ : Str → Option Value) (P : List Nat → σ → Prop) (b : Nat) (Q : Flow → Shared → Prop) (f : Flow) (s₂ : Shared) : Prop :=
  match f with
  | .ret v => Q (.ret v) s₂
  | .brk => Q .next s₂
  | _ => CiEnd g L s Led ps stored m₀ P b s₂
theorem for_ci {σ : Type} {x : Str} {px pos : Pos} {iter : Expr} {body : List Stmt} {m₀ : Str → Option Value} {l₀ : List Nat} {vs₀ : List Value} {n₀ : Nat} {k₀ : Int} {kt₀ : Tok}
    (ps : σ → List (Str × Value)) (stored : List Str) (P : List Nat → σ → Prop) (c₀ : σ)
    (rd : RdC (model prog w) A.in1 g L fn self ((I, Live et q) :: (q, methodObj (.ref fn) self) :: pre) d2 D mid lst post) (hh : A.handled = none)
    (hL : env.locals = L) (hx : env.kindOf x = some .local) (hp : (env.scope.kind == .class || (env.scope.kind == .module && env.locals != env.globals)) = false)
    (he : wpAny (model prog w) A (eval iter env) (fun v s₁ => v = Value.ref I ∧ s₁ = s) E s)
    (hfn : g.get? fn = some of) (hd : of.data = .func fd)
    (hne : ∀ p ∈ (q, methodObj (.ref fn) self) :: (pre ++ (d2, D 0 0) :: (mid ++ (lst, listOf #[] 0) :: post)), p.1 ≠ I)
    (F : Fr g L s.heap m₀) (N : News g L s.heap (CiL I (Live et q) q fn self pre d2 D mid lst post k₀ kt₀ vs₀ n₀)) (hS : Sg vs₀ l₀) (hk0 : 0 ≤ k₀) (hk1 : k₀ + (l₀.length : Int) ≤ 2000)
    (hk : ∀ p ∈ ps c₀, m₀ p.1 = some p.2) (hP : P l₀ c₀)
    (turn : ∀ a l c (u : Str → Option Value) h tk vs n k kt ta, P (a :: l) c → Sg vs l → 0 ≤ k → k + (l.length : Int) ≤ 2000 →
      Fr g L h (fun y => if y = x then some (.str ⟨#[a]⟩ ta) else kstB (fun z => if stored.contains z then u z else m₀ z) (ps c) y) → News g L h (CiL I (Live et q) q fn self pre d2 D mid lst post k kt vs n) →
      wpAny (model prog w) A (execs body env) (CiPost g L s (CiL I (Live et q) q fn self pre d2 D mid lst post) ps stored m₀ P l.length Q) E { s with heap := h, toks := tk })
    (done : ∀ c (u : Str → Option Value) h tk n k kt, P [] c → Fr g L h (kstB (fun z => if stored.contains z then u z else m₀ z) (ps c)) → News g L h (CiL I Ended q fn self pre d2 D mid lst post k kt [] n) → Q .next { s with heap := h, toks := tk })
    (hs : ∀ x, foldedSetIterable iter env x = pure x := by intro _; rfl)
    (hE : PassesOwn (model prog w) A env E := by passes_own) :
    wpAny (model prog w) A (exec (.For (.Name x px) iter body [] pos) env) Q E s := by
  subst hL
  refine For_meas (wpAny_mono he (fun v s₁ hv => ?_) fun _ _ e => e) hs hE
  obtain ⟨rfl, rfl⟩ := hv
  refine iter_ci (N _ (.head _)).1 ?_
  refine ⟨fun b s' => ∃ l c h tk m₁ vs n k kt, s' = { s₁ with heap := h, toks := tk } ∧ b = l.length ∧ Sg vs l ∧ 0 ≤ k ∧ k + (l.length : Int) ≤ 2000 ∧ Fr g env.locals h m₁ ∧ News g env.locals h (CiL I (Live et q) q fn self pre d2 D mid lst post k kt vs n) ∧
    (∀ p ∈ ps c, m₁ p.1 = some p.2) ∧ (∀ z, (∀ p ∈ ps c, z ≠ p.1) → stored.contains z = false → m₁ z = m₀ z) ∧ P l c, l₀.length, ⟨l₀, c₀, s₁.heap, s₁.toks, m₀, vs₀, n₀, k₀, kt₀, rfl, rfl, hS, hk0, hk1, F, N, hk, fun _ _ _ => rfl, hP⟩, ?_⟩
  rintro b s' ⟨l, c, h, tk, m₁, vs, n, k, kt, rfl, rfl, hS₁, hk0₁, hk1₁, F₁, N₁, h1, h2, hP₁⟩
  have F₂ := ksw_fr h1 h2 F₁
  refine ci_read rd hh hfn hd hne F₂ N₁ hS₁ hk0₁ hk1₁ ?_ ?_
  · rintro a l' u h' tk' vs' n' k' kt' rfl hS' hk0' hk1' F' N'
    refine wpAny_of_eq (a := ()) rfl ?_
    refine wpAny_assign_Name (wpAny_storeName_local hx F'.ns (fun h₃ hn₃ hs₃ => ?_) hp)
    replace hs₃ : Heap.SameBut env.locals h' h₃ := hs₃
    refine wpAny_mono (turn a l' c m₁ h₃ _ vs' n' k' kt' u hP₁ hS' hk0' hk1' (F'.set hn₃ hs₃) (N'.set hs₃)) (fun f s₆ h₆ => ?_) fun _ _ e => e
    have fin : CiEnd g env.locals s₁ (CiL I (Live et q) q fn self pre d2 D mid lst post) ps stored m₀ P l'.length s₆ → ∃ b', b' < (a :: l').length ∧ ∃ l c h tk m₁ vs n k kt, s₆ = { s₁ with heap := h, toks := tk } ∧ b' = l.length ∧ Sg vs l ∧ 0 ≤ k ∧ k + (l.length : Int) ≤ 2000 ∧ Fr g env.locals h m₁ ∧ News g env.locals h (CiL I (Live et q) q fn self pre d2 D mid lst post k kt vs n) ∧
        (∀ p ∈ ps c, m₁ p.1 = some p.2) ∧ (∀ z, (∀ p ∈ ps c, z ≠ p.1) → stored.contains z = false → m₁ z = m₀ z) ∧ P l c := by
      rintro ⟨l2, c2, h2, tk2, m2, vs2, n2, k2, kt2, rfl, hb, hS2, hk02, hk12, F2, N2, hka, hkb, hP2⟩
      exact ⟨l2.length, by simp only [List.length_cons]; omega, l2, c2, h2, tk2, m2, vs2, n2, k2, kt2, rfl, rfl, hS2, hk02, hk12, F2, N2, hka, hkb, hP2⟩
    cases f with
    | ret v => exact h₆
    | brk => exact h₆
    | next => exact fin h₆
    | cont => exact fin h₆
  · rintro h' tk' n' k' kt' rfl F' N'
    exact wpAny_execs_nil (done c m₁ h' tk' n' k' kt' hP₁ F' N')
def OneEnd (g : Heap) (L : Addr) (s : Shared) (Led : Int → Tok → List Value → Nat → List (Addr × Obj)) (R : (Str → Option Value) → Prop) (s₂ : Shared) : Prop :=
  ∃ h' tk' m' n' k' kt', s₂ = { s with heap := h', toks := tk' } ∧ Fr g L h' m' ∧ News g L h' (Led k' kt' [] n') ∧ R m'
def OnePost (g : Heap) (L : Addr) (s : Shared) (Led : Int → Tok → List Value → Nat → List (Addr × Obj)) (R : (Str → Option Value) → Prop) (Q : Flow → Shared → Prop) (f : Flow) (s₂ : Shared) : Prop :=
  match f with
  | .ret v => Q (.ret v) s₂
  | .brk => Q .next s₂
  | _ => OneEnd g L s Led R s₂
/-- the outer for: one turn, behind which the iterator has ended -/
theorem for_ci_one {x : Str} {px pos : Pos} {iter : Expr} {body : List Stmt} {m₀ : Str → Option Value} {a₀ : Nat} {l₀ : List Nat} {vs₀ : List Value} {n₀ : Nat} {k₀ : Int} {kt₀ : Tok}
    (R : (Str → Option Value) → Prop)
    (rd : RdC (model prog w) A.in1 g L fn self ((I, Live et q) :: (q, methodObj (.ref fn) self) :: pre) d2 D mid lst post) (hh : A.handled = none)
    (hL : env.locals = L) (hx : env.kindOf x = some .local) (hp : (env.scope.kind == .class || (env.scope.kind == .module && env.locals != env.globals)) = false)
    (he : wpAny (model prog w) A (eval iter env) (fun v s₁ => v = Value.ref I ∧ s₁ = s) E s)
    (hfn : g.get? fn = some of) (hd : of.data = .func fd)
    (hne : ∀ p ∈ (q, methodObj (.ref fn) self) :: (pre ++ (d2, D 0 0) :: (mid ++ (lst, listOf #[] 0) :: post)), p.1 ≠ I)
    (F : Fr g L s.heap m₀) (N : News g L s.heap (CiL I (Live et q) q fn self pre d2 D mid lst post k₀ kt₀ vs₀ n₀)) (hS : Sg vs₀ (a₀ :: l₀)) (hk0 : 0 ≤ k₀) (hk1 : k₀ + ((a₀ :: l₀).length : Int) ≤ 2000)
    (turn : ∀ h tk vs n k kt ta, Sg vs l₀ → 0 ≤ k → k + (l₀.length : Int) ≤ 2000 →
      Fr g L h (fun y => if y = x then some (.str ⟨#[a₀]⟩ ta) else m₀ y) → News g L h (CiL I (Live et q) q fn self pre d2 D mid lst post k kt vs n) →
      wpAny (model prog w) A (execs body env) (OnePost g L s (CiL I Ended q fn self pre d2 D mid lst post) R Q) E { s with heap := h, toks := tk })
    (done : ∀ m h tk n k kt, R m → Fr g L h m → News g L h (CiL I Ended q fn self pre d2 D mid lst post k kt [] n) → Q .next { s with heap := h, toks := tk })
    (hs : ∀ x, foldedSetIterable iter env x = pure x := by intro _; rfl)
    (hE : PassesOwn (model prog w) A env E := by passes_own) :
    wpAny (model prog w) A (exec (.For (.Name x px) iter body [] pos) env) Q E s := by
  subst hL
  refine For_meas (wpAny_mono he (fun v s₁ hv => ?_) fun _ _ e => e) hs hE
  obtain ⟨rfl, rfl⟩ := hv
  refine iter_ci (N _ (.head _)).1 ?_
  refine ⟨fun b s' => (b = 1 ∧ s' = s₁) ∨ (b = 0 ∧ ∃ h' tk' m' n' k' kt', s' = { s₁ with heap := h', toks := tk' } ∧ Fr g env.locals h' m' ∧ News g env.locals h' (CiL I Ended q fn self pre d2 D mid lst post k' kt' [] n') ∧ R m'), 1, .inl ⟨rfl, rfl⟩, ?_⟩
  rintro b s' (⟨rfl, rfl⟩ | ⟨rfl, h, tk, m, n, k, kt, rfl, F₁, N₁, hR⟩)
  · refine ci_read rd hh hfn hd hne F N hS hk0 hk1 ?_ ?_
    · rintro a l' u h' tk' vs' n' k' kt' he hS' hk0' hk1' F' N'
      obtain ⟨rfl, rfl⟩ : a₀ = a ∧ l₀ = l' := by cases he; exact ⟨rfl, rfl⟩
      refine wpAny_of_eq (a := ()) rfl ?_
      refine wpAny_assign_Name (wpAny_storeName_local hx F'.ns (fun h₃ hn₃ hs₃ => ?_) hp)
      replace hs₃ : Heap.SameBut env.locals h' h₃ := hs₃
      refine wpAny_mono (turn h₃ _ vs' n' k' kt' u hS' hk0' hk1' (F'.set hn₃ hs₃) (N'.set hs₃)) (fun f s₆ h₆ => ?_) fun _ _ e => e
      cases f with
      | ret v => exact h₆
      | brk => exact h₆
      | next => exact ⟨0, by omega, .inr ⟨rfl, h₆⟩⟩
      | cont => exact ⟨0, by omega, .inr ⟨rfl, h₆⟩⟩
    · intro h' tk' n' k' kt' he
      cases he
  · refine ci_ended hh (N₁ _ (.head _)).1 fun h' hx' => ?_
    exact wpAny_execs_nil (done m h' tk n k kt hR (fr_more F₁ hx') (news_more N₁ hx'))
end
end Mine
end

-- part Rg
section
open PySem PySem.W PyProof.Rows PySem.Spec
set_option maxRecDepth 100000
namespace Mine
abbrev rgObj (x left : Int) : Obj := { cls := .type "range_iterator", data := .fields #[rawInt x, rawInt left, rawInt 1] }
section
variable {prog : Program} {w : World} {A : Around} {E : Value → Shared → Prop} {Q : Flow → Shared → Prop} {s : Shared} {env : Env} {g : Heap} {L : Addr}
/-- for x in range(n) -/
theorem range_loop {σ : Type} {x : Str} {px : Pos} {body : List Stmt} {m₀ : Str → Option Value} {n : Nat} {tn : Tok}
    (Led : σ → List (Addr × Obj)) (ps : σ → List (Str × Value)) (stored : List Str) (P : Nat → σ → Prop) (c₀ : σ)
    (hL : env.locals = L) (hh : A.handled = none) (hx : env.kindOf x = some .local) (hp : (env.scope.kind == .class || (env.scope.kind == .module && env.locals != env.globals)) = false)
    (hn : n ≤ 1000) (F : Fr g L s.heap m₀) (N : News g L s.heap (Led c₀)) (hk : ∀ p ∈ ps c₀, m₀ p.1 = some p.2) (hP : P 0 c₀)
    (turn : ∀ i c (u : Str → Option Value) h tk ti It, i < n → P i c → (∀ p ∈ Led c, p.1 ≠ It) →
      Fr g L h (fun y => if y = x then some (.int (i : Int) ti) else kstB (fun z => if stored.contains z then u z else m₀ z) (ps c) y) → News g L h ((It, rgObj ((i : Int) + 1) ((n : Int) - (i : Int) - 1)) :: Led c) →
      wpAny (model prog w) A (execs body env) (LPost g L s Led ps stored m₀ [(It, rgObj ((i : Int) + 1) ((n : Int) - (i : Int) - 1))] (P (i + 1)) Q) E { s with heap := h, toks := tk })
    (done : ∀ c (u : Str → Option Value) h tk, P n c → Fr g L h (kstB (fun z => if stored.contains z then u z else m₀ z) (ps c)) → News g L h (Led c) → Q .next { s with heap := h, toks := tk }) :
    wpAny (model prog w) A (call (.type "range") [.int (n : Int) tn]) (fun v s₁ => wpAny (model prog w) A (pyIter v) (fun it s₂ => ∃ (I : Nat → Shared → Prop) (n₀ : Nat), I n₀ s₂ ∧
      ∀ n s', I n s' → wpAny (model prog w) A (pyNext it) (fun r s₃ => match r with
        | none => wpAny (model prog w) A (execs [] env) Q E s₃
        | some v => wpAny (model prog w) A (letOwnedTupleGo (.Name x px) it v) (fun _ s₄ => wpAny (model prog w) A (assign (.Name x px) env v) (fun _ s₅ => wpAny (model prog w) A (execs body env) (fun f s₆ => match f with
            | .next | .cont => ∃ m, m < n ∧ I m s₆
            | .brk => Q .next s₆
            | .ret v => Q (.ret v) s₆) E s₅) E s₄) E s₃) E s') E s₁) E s := by
  subst hL
  refine call_range_1 ?_
  refine wpAny_pyIter_range (IsRange.new _ _ _ _ _ _ _) (small_one (by decide) (by decide) (by omega) (by omega)) ?_
  dsimp only
  rw [rangeSize_nat]
  have F1 := (F.push { cls := .type "range", data := .fields #[.int 0 s.toks, .int (n : Int) tn, .int 1 (s.toks + 1)] }).push (rgObj 0 (((n : Int) - 0).toNat : Int))
  have N1 := News.push (F.push { cls := .type "range", data := .fields #[.int 0 s.toks, .int (n : Int) tn, .int 1 (s.toks + 1)] }) (News.push F N { cls := .type "range", data := .fields #[.int 0 s.toks, .int (n : Int) tn, .int 1 (s.toks + 1)] }) (rgObj 0 (((n : Int) - 0).toNat : Int))
  have hlt : ∀ p ∈ Led c₀, p.1 < s.heap.objs.size := fun p hp => Heap.lt_size (N p hp).1
  generalize hH : (s.heap.push { cls := .type "range", data := .fields #[.int 0 s.toks, .int (n : Int) tn, .int 1 (s.toks + 1)] }).objs.size = It at *
  have hIt : s.heap.objs.size < It := by rw [← hH, Heap.size_push]; exact Nat.lt_succ_self _
  have hI0 := N1 _ (.head _)
  have hn0 : (((n : Int) - 0).toNat : Int) = (n : Int) - (0 : Nat) := by omega
  refine ⟨fun b s' => ∃ i c h tk m₁, s' = { s with heap := h, toks := tk } ∧ b = n - i ∧ i ≤ n ∧ IsRangeIter h It ((i : Nat) : Int) ((n : Int) - (i : Nat)) 1 ∧ Fr g env.locals h m₁ ∧ News g env.locals h (Led c) ∧ (∀ p ∈ Led c, p.1 ≠ It) ∧
    (∀ p ∈ ps c, m₁ p.1 = some p.2) ∧ (∀ z, (∀ p ∈ ps c, z ≠ p.1) → stored.contains z = false → m₁ z = m₀ z) ∧ P i c, n, ⟨0, c₀, _, _, m₀, rfl, rfl, Nat.zero_le _, ?_, F1, (fun p hp => N1 p (.tail _ (.tail _ hp))), (fun p hp => Nat.ne_of_lt (Nat.lt_trans (hlt p hp) hIt)), hk, (fun _ _ _ => rfl), hP⟩, ?_⟩
  · rw [hn0] at hI0
    exact hI0.1
  rintro b s' ⟨i, c, h, tk, m₁, rfl, rfl, hi, hit, F₁, N₁, hne, h1, h2, hP₁⟩
  have F₂ := ksw_fr h1 h2 F₁
  have hIL : It ≠ env.locals := hI0.2.1
  have hIg : g.get? It = none := hI0.2.2
  have hNn : ∀ h', Heap.ExtBut It h h' → News g env.locals h' (Led c) := fun h' hx' p hp => ⟨hx' _ _ (hne p hp) (N₁ p hp).1, (N₁ p hp).2⟩
  by_cases hin : i = n
  · subst hin
    refine wpAny_pyNext_range_end hh hit (by omega) fun h' hx' => wpAny_execs_nil ?_
    exact done c m₁ h' tk hP₁ (fr_but F₂ hIL hIg hx') (hNn h' hx')
  · refine wpAny_pyNext_range_item hit (by omega) fun h' hit' hs' => ?_
    replace hs' : Heap.SameBut It h h' := hs'
    have F₃ := fr_but F₂ hIL hIg hs'.extBut
    have N₃ : News g env.locals h' ((It, rgObj ((i : Int) + 1) ((n : Int) - (i : Int) - 1)) :: Led c) := fun p hp => by
      rcases List.mem_cons.mp hp with rfl | hp
      · exact ⟨hit', hIL, hIg⟩
      · exact hNn h' hs'.extBut p hp
    refine wpAny_of_eq (a := ()) rfl ?_
    refine wpAny_assign_Name (wpAny_storeName_local hx F₃.ns (fun h₃ hn₃ hs₃ => ?_) hp)
    replace hs₃ : Heap.SameBut env.locals h' h₃ := hs₃
    refine wpAny_mono (turn i c m₁ h₃ _ _ It (by omega) hP₁ hne (F₃.set hn₃ hs₃) (N₃.set hs₃)) (fun f s₆ h₆ => ?_) fun _ _ e => e
    have fin : LEnd g env.locals s Led ps stored m₀ [(It, rgObj ((i : Int) + 1) ((n : Int) - (i : Int) - 1))] (P (i + 1)) s₆ → ∃ b', b' < n - i ∧ ∃ i c h tk m₁, s₆ = { s with heap := h, toks := tk } ∧ b' = n - i ∧ i ≤ n ∧ IsRangeIter h It ((i : Nat) : Int) ((n : Int) - (i : Nat)) 1 ∧ Fr g env.locals h m₁ ∧ News g env.locals h (Led c) ∧ (∀ p ∈ Led c, p.1 ≠ It) ∧
        (∀ p ∈ ps c, m₁ p.1 = some p.2) ∧ (∀ z, (∀ p ∈ ps c, z ≠ p.1) → stored.contains z = false → m₁ z = m₀ z) ∧ P i c := by
      rintro ⟨c', h', tk', m', news', rfl, F', N', ho', hn', hq', hk', hr', hp'⟩
      have hI := N' _ (ho' _ (.head _))
      refine ⟨n - (i + 1), by omega, i + 1, c', h', tk', m', rfl, rfl, by omega, ?_, F', fun p hp => N' p (hn' p hp), hq' _ (.head _), hk', hr', hp'⟩
      have e1 : ((i + 1 : Nat) : Int) = (i : Int) + 1 := by push_cast; rfl
      have e2 : (n : Int) - ((i + 1 : Nat) : Int) = (n : Int) - (i : Int) - 1 := by omega
      rw [e1, show (n : Int) - ((i : Int) + 1) = (n : Int) - (i : Int) - 1 by omega]
      exact hI.1
    cases f with
    | ret v => exact h₆
    | brk => exact h₆
    | next => exact fin h₆
    | cont => exact fin h₆
end
end Mine
end

-- part Tt
section
open PySem PySem.W PyProof.Rows PySem.Calls Builtin Builtin.Str
set_option maxRecDepth 100000
namespace Mine
/-- a short plain text -/
def Sh (b : Nat) (r : Str) : Prop := r.length ≤ b ∧ r.cps.all (· < 128) = true
def TxEl (b : Nat) (news : List (Addr × Obj)) (y : Value) (news' : List (Addr × Obj)) : Prop := news' = news ∧ ∃ (r : Str) (t : Tok), y = .str r t ∧ Sh b r
section
variable {prog : Program} {w : World} {A : Around} {h₀ : Heap} {L : Addr} {m : Str → Option Value} {env : Env} {elt : Expr} {x : Str} {scope : Scope} {cl : List (Str × Addr)} {s : Shared} {S : List (Addr × Obj) → Prop} {Fin : List Value → List (Addr × Obj) → Prop} {news : List (Addr × Obj)}
theorem comp_texts {vs : List Value} {ks : List Int} (b : Nat) (hi : IntsAre vs ks)
    (turn : ∀ k t I oI C oC D m₂ ys h tk (E' : Value → Shared → Prop), LCg.NsObj oC m₂ → m₂ x = some (.int k t) → Fr h₀ L h m → News h₀ L h ((I, oI) :: (C, oC) :: (D, LCg.lst ys) :: news) → LCg.Off3 I C D news → ((@Ne Nat I C) ∧ (@Ne Nat I D) ∧ (@Ne Nat C D)) →
      wpAny (model prog w) A (eval elt (compEnvC scope cl C env)) (LCg.CompEnd h₀ L m { s with heap := h, toks := tk } I oI C oC D (LCg.lst ys) S (TxEl b news)) E' { s with heap := h, toks := tk })
    (fin : ∀ l : List (Str × Tok), (∀ p ∈ l, Sh b p.1) → l.length = vs.length → Fin (strValues l) news) : LCg.CompRest prog w A h₀ L m env elt x scope cl s S (fun i v => vs.toArray[i]? = some v) Fin vs.toArray.size 0 [] news := by
  have key : ∀ (j i : Nat) (l : List (Str × Tok)), i + j = vs.length → l.length = i → (∀ p ∈ l, Sh b p.1) → LCg.CompRest prog w A h₀ L m env elt x scope cl s S (fun i v => vs.toArray[i]? = some v) Fin j i (strValues l) news := by
    intro j
    induction j with
    | zero =>
      intro i l hi hy ht
      exact LCg.CompRest.zero (fin l ht (by omega))
    | succ j ih =>
      intro i l hij hy ht
      refine LCg.CompRest.succ ?_
      intro v I oI C oC D m₂ h tk E' hv hC hx F N off ne
      obtain ⟨k, t, e, hk⟩ := IntsAre.at hi i v (by simpa using hv)
      rw [e] at hx
      refine wpAny_mono (turn k t I oI C oC D m₂ (strValues l) h tk E' hC hx F N off ne) (fun y s₂ hq => ?_) fun _ _ e => e
      obtain ⟨h', tk', nw, e, F', N', off', hS, hn, r, t', hy', hr⟩ := hq
      rw [hn] at N' off' hS
      refine ⟨h', tk', news, e, F', N', off', hS, ?_⟩
      dsimp only
      rw [hy', show strValues l ++ [Value.str r t'] = strValues (l ++ [(r, t')]) by simp [strValues]]
      refine ih (i + 1) _ (by omega) (by simp [hy]) ?_
      intro p hp
      rcases List.mem_append.mp hp with hp | hp
      · exact ht p hp
      · rw [List.mem_singleton.mp hp]; exact hr
  have := key vs.length 0 [] (by omega) rfl (fun _ h => nomatch h)
  rw [List.size_toArray]
  exact this
end
theorem all_append {x y : Str} {p : Nat → Bool} (hx : x.cps.all p = true) (hy : y.cps.all p = true) : (x ++ y).cps.all p = true := by
  rw [Str.cps_append, Array.all_append, hx, hy]
  rfl
theorem sh_getD {b : Nat} {l : List Str} (h : (l.all fun r => decide (r.length ≤ b) && r.cps.all (· < 128)) = true) (i : Nat) : Sh b (l.getD i Str.empty) := by
  rw [List.getD_eq_getElem?_getD]
  cases e : l[i]? with
  | none => exact ⟨Nat.zero_le _, by decide +kernel⟩
  | some r =>
    have := List.all_eq_true.mp h r (List.mem_of_getElem? e)
    simp only [Bool.and_eq_true, decide_eq_true_eq] at this
    exact this
theorem join_sh {b : Nat} : ∀ {l : List Str}, (∀ p ∈ l, Sh b p) → Sh (l.length * b) (Str.join (Str.ofString "") l)
  | [], _ => by rw [show Str.join (Str.ofString "") [] = Str.empty from rfl]; exact ⟨Nat.zero_le _, by decide +kernel⟩
  | [x], h => by
    have hx := h x (.head _)
    exact ⟨by simpa [Str.join] using hx.1, hx.2⟩
  | x :: y :: r, h => by
    have hx := h x (.head _)
    have hr := join_sh (l := y :: r) fun p hp => h p (.tail _ hp)
    have hz : (Str.ofString "").length = 0 := by decide +kernel
    show Sh _ (x ++ Str.ofString "" ++ Str.join (Str.ofString "") (y :: r))
    refine ⟨?_, all_append (all_append hx.2 (by decide +kernel)) hr.2⟩
    rw [Str.length_append, Str.length_append, hz]
    have h1 := hx.1
    have h2 := hr.1
    simp only [List.length_cons, Nat.succ_mul] at h2 ⊢
    omega
theorem tx_join {b : Nat} {l : List (Str × Tok)} (h : ∀ p ∈ l, Sh b p.1) : Sh (l.length * b) (Txt.join (Str.ofString "") (l.map (·.1))) := by
  show Sh _ (glued _ _)
  rw [StrLaws.glued_eq_join]
  have := join_sh (b := b) (l := l.map (·.1)) fun p hp => by
    obtain ⟨q, hq, rfl⟩ := List.mem_map.mp hp
    exact h q hq
  rwa [List.length_map] at this
theorem tx_ok {b : Nat} {l : List (Str × Tok)} (h : ∀ p ∈ l, Sh b p.1) (hb : l.length * b ≤ 1000) : JoinOk (Str.ofString "") (l.map (·.1)) = true := by
  unfold JoinOk
  have hz : (Str.ofString "").length = 0 := by decide +kernel
  rw [StrLaws.joinFits (B := b) (fun y hy => by
    obtain ⟨q, hq, rfl⟩ := List.mem_map.mp hy
    exact (h q hq).1) (by rw [hz, List.length_map]; omega)]
  rfl
end Mine
end

-- part W0
section
open PySem PySem.W PyProof.Rows
namespace Mine
set_option maxRecDepth 100000 in
set_option maxHeartbeats 8000000 in
open_top hd for PySem.Challenge.rw_wn0035_01
end Mine
end

-- part Nb
section
open PySem PySem.W PyProof.Rows
namespace Mine
set_option maxRecDepth 100000 in
theorem nb {P : Params} {h : Heap} (X : (Mine.hd.heap_39 P).In h) : NoneBooked h := by
  refine ⟨_, ⟨_, _, _, X 2 _ rfl, rfl, ?_, fun _ => rfl⟩, ?_⟩
  · intro e he
    simp only [List.mem_toArray, List.mem_cons, List.not_mem_nil, or_false] at he
    rcases he with rfl | rfl <;> exact ⟨_, _, rfl⟩
  · kernel_rfl
end Mine
end

-- the walks
section
open PySem PySem.W PyProof.Rows
namespace Mine
local macro_rules | `(tactic| walk_at $s:str) => `(tactic| k_extra $s)
local macro_rules | `(tactic| k_room) => `(tactic| ktr_room)
local macro_rules | `(tactic| k_units) => `(tactic| ktr_units)
local macro_rules | `(tactic| k_all) => `(tactic| ((rename BelowA _ _ => hba'); exact fun p hp => neN (Nat.ne_of_lt (Nat.lt_of_lt_of_le (hba'.h p hp) (by omega)))))

-- part P1
section
open PySem PySem.W PyProof.Rows
set_option maxRecDepth 100000 in
set_option maxHeartbeats 8000000 in
theorem parse_claim (w : World) (p : Program) (loose : List Str) (mean : ExcName → Option Value) (mg mb : Str → Option Value) (news : List (Addr × Obj)) (resp x : Str) (t : Tok)
    (hx : cl resp = [50, 53, 55, 32, 34] ++ cl x) (hl : resp.length ≤ 1000) :
    CbClaim PySem.Challenge.rw_wn0035_01.row.prog w (Mine.hd.heap_39 w.params) p loose mean mg mb 53 news [] True [.str resp t] (fun t => .str (Pf x) t) := by
  dsimp only [CbClaim, CbLists, CbRet]
  k_fill
  intros; rename_i hret
  have h3 := resp_3 hx
  have h35 := resp_35 hx
  have h5 : 5 ≤ resp.length := by rw [len_cl, hx]; simp
  w_top off
  k_with_none
  k_with "exec While Compare cons nil" => k_while_given ["resp"] (fun (resp : Str) (script : List Int) (i : Int) (dirname : Str) => 5 ≤ i ∧ i ≤ resp.length ∧ (dirname.length : Int) ≤ i ∧ PInv resp i dirname) (fun (resp : Str) (script : List Int) (i : Int) (dirname : Str) => resp.length - i.toNat) "i" "dirname"
  k_with "state" => exact pinv_start (by assumption)
  k_with "state" => exact pinv_one (by assumption) (by assumption) (by assumption) (by assumption) (by assumption)
  k_with "state" => exact pinv_two (by assumption) (by assumption) (by assumption) (by assumption) (by assumption) (by assumption) (by assumption)
  refine wpAny_call ?_
  k_dflt cell_enter
  k_steps
  · exact cb_retS hret (pinv_brk hx (by assumption) (by assumption) (by assumption) (by assumption) (.inl (by assumption))) (by assumption) (by assumption)
  · exact cb_retS hret (pinv_brk hx (by assumption) (by assumption) (by assumption) (by assumption) (.inr ⟨by omega, by assumption⟩)) (by assumption) (by assumption)
  · exact cb_retS hret (pinv_end hx (by assumption) (by assumption) (by assumption)) (by assumption) (by assumption)
end

-- part D1
section
open PySem PySem.W PyProof.Rows
set_option maxRecDepth 100000 in
set_option maxHeartbeats 8000000 in
theorem due_claim (w : World) (p : Program) (loose : List Str) (mean : ExcName → Option Value) (mg mb : Str → Option Value) (news : List (Addr × Obj)) (l : Addr) (vs : List Value) (n : Nat) (ls : List (List Nat × List Nat)) (b a : Nat) (tb ta : Tok) (hb : b ≤ 3) (ha : a ≤ 3)
    (hl : (l, listOf vs.toArray n) ∈ news) (hls : LevsIn news vs ls) (hdl : (due b a ls).length ≤ 1000) (hbd : ∀ x ∈ ls, x.1.length ≤ 1000 ∧ x.2.length ≤ 1000) :
    Clm w (Mine.hd.heap_39 w.params) p loose mean mg mb PySem.Challenge.rw_wn0035_01.row.prog 147 news [.ref l, .int (b : Int) tb, .int (a : Int) ta] (RetV news fun t => .str (Duef b a ls) t) := by
  dsimp only [Clm, RetV]
  k_fill
  intros; rename_i hret
  w_top off
  k_with_none
  k_with "binaryOp Mult str int" => (refine mul_shift (by omega) (by omega) ?_; intro _ _ zhQs)
  k_with "LPost" => (dsimp only [LPost])
  k_with "LEnd" => (refine hold ?_)
  k_with "exec While" => refine hold ?_
  k_with "exec For Tuple Name cons nil" => refine hold ?_
  refine wpAny_call ?_
  k_dflt cell_enter
  k_steps
  unfold Hold
  (rename Fr _ _ _ _ => F1); (rename News _ _ _ _ => N1)
  refine for_pairs (σ := Str × Tok) (fun _ => news) (fun c => [(Str.ofString "due", .str c.1 c.2)]) [Str.ofString "whole", Str.ofString "marks"] (fun rest c => cl c.1 ++ due b a rest = due b a ls ∧ ∀ x ∈ rest, x ∈ ls) (Str.ofString "", _) ls PairRel rfl rfl rfl rfl rfl (ld F1 rfl ⟨rfl, rfl⟩) F1 N1 (by kst_all) ⟨by rw [e_is]; rfl, fun _ h => h⟩ (fun _ => hl) hls.1 (fun _ => hls.2) ?_ ?_
  · rintro ⟨told, ch⟩ rest ⟨du, tdu⟩ u h tk v1 v2 It o ⟨x, tt, c, n', cvs, rfl, rfl, hx, hc, hi⟩ ⟨hP, hsub⟩ hne F2 N2
    have N3 : News _ _ h ((c, listOf cvs.toArray n') :: (It, o) :: news) := fun p hp => by
      rcases List.mem_cons.mp hp with rfl | hp
      · exact N2 _ (.tail _ hc)
      · exact N2 _ hp
    have hbx := hbd _ (hsub _ (.head _))
    dsimp only at hx hi hbx hP
    dsimp only [kstB] at F2
    have hxl : x.length ≤ 1000 := by rw [len_cl, hx]; exact hbx.1
    have hdu : du.length ≤ 1000 := by rw [len_cl]; have := congrArg List.length hP; rw [List.length_append] at this; omega
    have hcl : cvs.length ≤ 1000 := by rw [hi.length, List.length_map]; exact hbx.2
    k_with "exec While BoolOp cons nil" => k_while (fun (script : List Int) (whole : Int) => 0 ≤ whole ∧ whole ≤ (cvs.length : Int) ∧ WI b ch whole) (fun (script : List Int) (whole : Int) => cvs.length - whole.toNat) "whole"
    k_with "state" => exact wi_start
    k_with "state" => exact wi_step (by assumption) (by assumption) (by assumption) (by assumption) (by assumption)
    k_steps
    · (rename News _ _ _ _ => N9); exact cb_retS hret (due_e1 hP hx (by assumption) (by assumption) (by assumption) (by assumption) (by assumption)) (by assumption) (fun p hp => N9 p (by kst_mem))
    · (rename News _ _ _ _ => N9); exact cb_retS hret (due_e1 hP hx (by assumption) (by assumption) (by assumption) (by assumption) (by assumption)) (by assumption) (fun p hp => N9 p (by kst_mem))
    · (rename News _ _ _ _ => N9); exact cb_retS hret (due_e2 hP hx (by assumption) (by assumption) (by assumption) (by assumption) (by assumption)) (by assumption) (fun p hp => N9 p (by kst_mem))
    · (rename News _ _ _ _ => N9); exact cb_retS hret (due_e2 hP hx (by assumption) (by assumption) (by assumption) (by assumption) (by assumption)) (by assumption) (fun p hp => N9 p (by kst_mem))
    · (rename News _ _ _ _ => N9); exact cb_retS hret (due_e3 hP hx (by assumption) (by assumption) (by assumption) (by assumption)) (by assumption) (fun p hp => N9 p (by kst_mem))
    · (rename News _ _ _ _ => N9); exact cb_retS hret (due_e4 hP hx (by assumption) (by assumption) (by assumption) (by assumption)) (by assumption) (fun p hp => N9 p (by kst_mem))
    · unfold Hold
      (rename Fr _ _ _ _ => F9)
      (rename News _ _ _ _ => N9)
      refine lend (_, _) F9 N9 (by kst_in) (by kst_in) (by intro q hq p hp; rcases List.mem_singleton.mp hq with rfl; exact hne p hp) (by kst_all) (by ksw_same) ⟨due_e5 hP hx (by assumption) (by assumption) (by assumption) (by assumption) (by assumption), fun y hy => hsub _ (.tail _ hy)⟩
  · rintro ⟨du, tdu⟩ u h tk ⟨hP, hsub⟩ F2 N2
    dsimp only [kstB] at F2
    simp only [due, List.append_nil] at hP
    k_steps
    exact cb_retS hret (str_ext hP) (by assumption) (by assumption)
end

-- part V1
section
open PySem PySem.W PyProof.Rows
def InTry : Prop := True
theorem one_or {c d : Nat} (h : ((⟨#[c]⟩ : Str) == ⟨#[d]⟩) = false) : c ≠ d := by
  rw [one_eq] at h
  exact of_decide_eq_false h
set_option maxRecDepth 100000 in
set_option maxHeartbeats 8000000 in
theorem levels_claim (w : World) (mean : ExcName → Option Value) (mg mb : Str → Option Value) (news : List (Addr × Obj)) (text₀ : Str) (t₀ : Tok) (hl₀ : text₀.length ≤ 1000) (hasc₀ : text₀.cps.all (· < 128) = true) :
    Clm0 w (Mine.hd.heap_39 w.params) topProg (looseW Mine.hd.view_39 [] ++ List.map (fun x => x.name) (recsOf Mine.hd.view_39) ++ List.map (fun x => x.fst) (litsOf Mine.hd.view_39) ++ List.map (fun x => x.name) (clssOf Mine.hd.view_39 (looseW Mine.hd.view_39 []))) mean mg mb PySem.Challenge.rw_wn0035_01.row.prog 140 news [.str text₀ t₀] (RetL news text₀) := by
  dsimp only [Clm0, RetL]
  k_fill
  intros; rename_i hret
  w_top off
  k_with_none
  k_with "exec While" => refine hold ?_
  k_with "exec For Tuple Call cons cons" => refine hold ?_
  k_with "call type:enumerate" => refine hold ?_
  k_with "exec Try" => ((fail_if_success (have : InTry := by assumption)); refine hold ?_)
  k_with "eval ListComp" => refine hold ?_
  k_with "call builtin:str.join" => refine hold ?_
  k_with "subscriptTail Name UnaryOp ref int" => refine hold ?_
  k_with "subscriptTail Subscript" => ((with_reducible show wpAny _ _ (subscriptTail _ (Expr.Slice (some _) none none _) _ _) _ _ _); (with_reducible show wpAny _ _ (subscriptTail _ _ (Value.str _ _) (Value.ref _)) _ _ _); (refine slice_strN_sn (hsz := by unfold sizeLine; omega) (s := ⟨_, _, _, _, _⟩) (by assumption) (by assumption) ?_); intro _ _ _ _ _)
  k_with "call builtin:str.split" => ((refine KSpl.split1 (by k_asm) (by k_asm) (by decide +kernel) ?_ (by unfold sizeLine; omega)); intro zD' zl' zh' zk' ze' za' zF' zN' zl1; (try k_lt zl1))
  k_with "exec If" => ((fail_if_success (have : InTry := by assumption)); refine hold ?_)
  k_with "LPost" => (dsimp only [LPost])
  k_with "LEnd" => (refine hold ?_)
  k_with "call builtin:list.append" => refine hold ?_
  k_with "LPostS" => (dsimp only [LPostS])
  k_with "LEndS" => (refine hold ?_)
  k_with "execs cons" => (refine execs_pos (T0 := 1) (by (try dsimp only); omega) ?_)
  k_with "forall" => ((with_reducible show 1 ≤ _ → _); intro zhTk; (try dsimp only at zhTk))
  k_with "compareOp Is str str" => ((rename Fr _ _ _ _ => zF'); (rename Frag.In _ _ => zX'); (refine is_str (by (try dsimp only); omega) (by (try dsimp only); omega) (by (try dsimp only); omega) (nb (zX'.keeps zF'.keep)) ?_); intro zr' zhr')
  refine wpAny_call ?_
  k_dflt (refine' code_defS0 ?k1 ?k2 ?k3 ?k4 ?k5 ?kA ?k6 ?k7 ?k8 ?k9 ?kB ?_ ?cK ?c2 ?c3 ?c4 ?c5; (case kA => exact rfl); (case k2 => k_asm); (case k1 => k_asm); (case k3 => k_asm); (case k4 => k_asm); (case k5 => k_asm); (case k6 => k_is); (case k7 => k_is); (case k8 => k_room); (case k9 => exact BindsTo.of_eq rfl); (case kB => exact locs rfl); (case cK => assumption); (case c2 => exact rfl); (case c3 => exact rfl); (case c4 => exact rfl); (case c5 => decide); k_whole; intro g' L' h' FG' F' N' B' X' T' D'; (try dsimp only); (try k_lift B'); (try k_fold))
  k_steps
  unfold Hold
  (rename Fr _ _ _ _ => F1); (rename News _ _ _ _ => N1)
  rename_i lv _ hlv _
  refine while_S (σ := LvS) (Bse _ _ _ _ _ _ _ _ _ _) (fun c => (_, listOf c.vs.toArray c.nl) :: (c.own ++ news)) (fun c => [(Str.ofString "text", .str c.text c.tt)]) [Str.ofString "place", Str.ofString "parts", Str.ofString "told", Str.ofString "chain", Str.ofString "far"] (fun c => LvI text₀ c.text c.own lv c.vs) (fun c => c.text.length) ⟨text₀, t₀, [], 0, []⟩ 1 (by dsimp only; omega) ⟨KtsTurn.refl, B', X', T', D'⟩ F1 N1 (by kst_all) (lvi_start hasc₀ hl₀) ?_
  clear B' X' T' D' F1 N1
  rintro g ⟨text, tt, vs, nl, own⟩ u h tk ⟨hT, hB, hX, hTp, hD⟩ hTk hI F2 N2
  dsimp only [kstB] at F2 N2 hI
  have hasc : text.cps.all (· < 128) = true := hI.asc
  have hlen : text.length ≤ 1000 := by have := hI.len; omega
  k_steps
  · unfold Hold
    (rename Fr _ _ _ _ => F3); (rename News _ _ _ _ => N3)
    refine mid_try (Bse _ _ _ _ _ _ _ _ _ g') ⟨hT, hB, hX, hTp, hD⟩ F3 N3 text ?mid ?rest
    case mid =>
      have hIn : InTry := trivial
      k_steps
      unfold Hold
      refine For_meas ?_
      k_steps
      unfold Hold
      (rename Fr _ _ _ _ => F4); (rename News _ _ _ _ => N4)
      refine index_loop rfl rfl rfl rfl rfl hasc F4 N4 ?turn ?done
      case turn =>
        intro i c h tk tc en it oe oi hc hpre htc F5 N5
        have htc2 := Nat.le_trans (Nat.le_add_right _ _) htc
        clear htc
        k_steps
        · (rename Fr _ _ _ _ => F6); (rename News _ _ _ _ => N6)
          have hlt := (List.getElem?_eq_some_iff.mp hc).1
          (rename ((_ : Bool) = true → (_ : Str) = _) => hr)
          have e := hr (by assumption)
          refine ⟨_, i, _, _, _, rfl, rfl, ⟨hT, hB, hX, hTp, hD⟩, by rw [len_cl]; omega, hpre, fun _ => ?_, nsub N6 (by kst_in), F6⟩
          rw [hc]; rw [q_is] at e; simpa using e
        · (rename Fr _ _ _ _ => F6); (rename News _ _ _ _ => N6)
          have hlt := (List.getElem?_eq_some_iff.mp hc).1
          (rename ((Str.mk _ == _) = true) => he)
          have e := eq_of_beq he
          refine ⟨_, i, _, _, _, rfl, rfl, ⟨hT, hB, hX, hTp, hD⟩, by rw [len_cl]; omega, hpre, fun _ => ?_, nsub N6 (by kst_in), F6⟩
          rw [hc]; rw [q_is] at e; simpa using e
        · (rename ((Str.mk _ == _) = false) => he)
          rw [q_is] at he
          exact one_or he
        · assumption
        · assumption
      case done =>
        intro u h tk hno F5 N5
        k_steps
        (rename Fr _ _ _ _ => F6); (rename News _ _ _ _ => N6); (rename KtsTurn _ _ _ => T6); (rename Below _ _ _ _ => B6); (rename Frag.In _ _ => X6); (rename Top _ _ _ _ _ _ => P6); (rename KtsDicts _ _ => D6)
        exact ⟨_, text.length, _, _, _, rfl, rfl, ⟨T6, B6, X6, P6, D6⟩, Nat.le_refl _, fun hm => hno (List.mem_of_mem_take hm), fun h => absurd h (Nat.lt_irrefl _), nsub N6 (by kst_in), F6⟩
    case rest =>
      intro f s' hmid
      obtain ⟨g2, k, h4, tk4, t4, rfl, rfl, ⟨hT2, hB2, hX2, hTp2, hD2⟩, hk, hpre, hat, N4, F4⟩ := hmid
      clear hT hB hX hTp hD F3 N3
      dsimp only at F4
      k_steps
      unfold Hold
      (rename Fr _ _ _ _ => F5); (rename News _ _ _ _ => N5)
      (rename (List.map _ _ = Txt.split _ _) => hsp)
      rename List (Str × Tok) => l
      have hpl : cl (Txt.slice text none (some (k : Int))) = (cl text).take k := slice_to_cl (by omega)
      have hpb : (Txt.slice text none (some (k : Int))).length ≤ 1000 := by rw [len_cl, hpl, List.length_take, ← len_cl]; omega
      have hsum := split_sum (Txt.slice text none (some (k : Int)))
      have hll : l.length = (Txt.split (Txt.slice text none (some (k : Int))) ⟨#[92, 92]⟩).length := by rw [← bb_is, ← hsp, List.length_map]
      have hzl : ∀ z ∈ l.map (·.1), z.length ≤ 1000 := by
        intro z hz
        rw [hsp, bb_is] at hz
        exact Nat.le_trans (part_le hz) hpb
      have hlm : ∀ p ∈ l, p.1.length ≤ 1000 := fun p hp => hzl _ (List.mem_map_of_mem hp)
      refine ListComp_strs (l := l) (fun p => Txt.replace p (Str.ofString "\\") (Str.ofString "")) rfl (by decide) (by decide) rfl (by decide) rfl (ld F5 rfl ⟨rfl, rfl⟩) F5 N5 (N5.isList (.head _)) (by unfold sizeLine; omega) ?helt ?hQ
      case helt =>
        intro C y u s₃ m₃ E' hm hn hx htk
        have hy := hlm _ hm
        refine call_replace rfl rfl (by decide +kernel) (by dsimp only at hy; omega) (by decide +kernel) (Nat.le_trans (Nat.le_add_left 1 _) htk) (wpAny_Name (wpAny_loadName_local rfl rfl hn hx ⟨rfl, rfl⟩) (by decide)) fun t' k => ⟨⟨t', rfl⟩, _, k, rfl, fun _ _ e => e⟩
      case hQ =>
        intro D l' n h' tk hl' F6 N6 hDne
        have htj := told_join hsp hl'
        k_steps
        unfold Hold
        refine SC.join (N6.isList (.head _)) htj (told_ok hpb) ?_
        intro tj kj
        have htold := told_cl (x := Txt.slice text none (some (k : Int))) (hpl ▸ hpre)
        generalize Txt.join (Str.ofString "\\") _ = told at htold ⊢
        rw [hpl] at htold
        have htl : told.length ≤ 1000 := by rw [len_cl, htold]; exact Nat.le_trans (Lx_len _) (by rw [List.length_take, ← len_cl]; omega)
        k_steps
        unfold Hold
        (rename Fr _ _ _ _ => F7); (rename News _ _ _ _ => N7)
        refine mid_if F7 N7 text k ?cif ?crest
        case cif =>
          have hIn : InTry := trivial
          k_steps
          unfold Hold
          obtain ⟨ini, z, hz, hez⟩ := (told_is (x := Txt.slice text none (some (k : Int))) (hpl ▸ hpre)).2
          rw [hpl] at hez
          have hlz : (l.map (·.1)) = ini ++ [z] := by rw [hsp, bb_is, hz]
          refine item_strsTneg (l := l) (N7.isList (by first | exact .head _ | exact .tail _ (.head _) | exact .tail _ (.tail _ (.head _)) | exact .tail _ (.tail _ (.tail _ (.head _))))) (by decide) (by have := congrArg List.length hlz; rw [List.length_map, List.length_append] at this; simp at this; omega) (by decide) ?_
          intro z' tz hz'
          have hzz : z' = z := by
            have e1 : ((-1 : Int) + (l.length : Int)).toNat = ini.length := by have := congrArg List.length hlz; rw [List.length_map, List.length_append] at this; simp at this; omega
            rw [hlz] at hz'
            have hz2 : (ini ++ [z])[((-1 : Int) + (l.length : Int)).toNat]? = some z' := hz'
            rw [e1] at hz2
            simpa using hz2.symm
          subst hzz
          have hzl : z'.length ≤ 1000 := hzl _ (by rw [hlz]; simp)
          k_steps
          · unfold Hold
            (rename Fr _ _ _ _ => F9); (rename News _ _ _ _ => N9)
            have hesc : esc ((cl text).take k) = true := by
              (rename ((Txt.slice _ _ _ == _) = true) => ha)
              rw [slice_last] at ha
              exact hez.mpr (of_decide_eq_true ha)
            (rename (_ ∧ _ ∧ _ ∧ AllLt _ _) => hla)
            have hlaN := fun q hq => Nat.ne_of_lt (ktn_ltOf hla.2.2.2 q hq)
            refine while_L (σ := ChS) (fun c => listOf c.cvs.toArray c.n) (fun c => [(Str.ofString "place", .int (c.p : Int) c.tp)]) [Str.ofString "far"] (ChI text k) (fun c => text.length - c.p) ⟨k, t4, [], [], 0⟩ 1 (by dsimp only; omega) F9 N9 (by kst_all) (chi_start hk hlen) ?_
            rintro ⟨p, tp, ns, cvs, nn⟩ u9 h9 tk9 hTk9 hC F10 N10
            have hCl := hC.lo
            have hCh := hC.hi
            dsimp only [kstB] at F10 N10 hCl hCh
            have hpl9 : p ≤ text.length := hCh
            k_steps
            · unfold Hold
              (rename ((Txt.slice _ _ _ == _) = true) => hq)
              rw [sl_one (by omega)] at hq
              have hq := of_decide_eq_true hq
              rw [Int.toNat_natCast] at hq
              (rename Fr _ _ _ _ => F11); (rename News _ _ _ _ => N11)
              refine while_K (σ := Nat × Tok) (fun c => [(Str.ofString "far", .int (c.1 : Int) c.2)]) [] (FaI text p) (fun c => text.length - c.1) (p, tp) 1 (by dsimp only; omega) F11 N11 (by kst_all) (fai_start hpl9) ?_
              rintro ⟨far, tf⟩ u10 h10 tk10 hTk10 hFa F12 N12
              have hFl := hFa.lo
              have hFh := hFa.hi
              dsimp only [kstB] at F12 N12 hFl hFh
              k_steps
              · unfold Hold
                (rename ((Txt.slice _ _ _ == _) = true) => hq2)
                rw [sl_one (by omega)] at hq2
                have hq2 := of_decide_eq_true hq2
                rw [Int.toNat_natCast] at hq2
                (rename Fr _ _ _ _ => F13); (rename News _ _ _ _ => N13)
                refine lend (far + 1, _) F13 N13 (fun _ h => nomatch h) (by kst_in) (fun _ h => nomatch h) (by kst_all) (by ksw_same) (fai_step hFa hq2)
              · unfold Hold
                (rename ((Txt.slice _ _ _ == _) = false) => hq2)
                rw [sl_one (by omega)] at hq2
                have hq2 := of_decide_eq_false hq2
                rw [Int.toNat_natCast] at hq2
                (rename Fr _ _ _ _ => F13); (rename News _ _ _ _ => N13)
                have hnl := hC.len
                have hcl := hC.nums.length
                rw [List.length_map] at hcl
                dsimp only at hnl hcl
                refine append_K F13 N13 (Upd.head (List.forall_mem_cons.mpr ⟨by k_ne, List.forall_mem_cons.mpr ⟨by k_ne, List.forall_mem_cons.mpr ⟨by k_ne, hlaN⟩⟩⟩)) ?_ (by simp only [List.size_toArray]; unfold sizeLine; omega)
                intro h14 F14 N14
                rw [List.push_toArray] at N14
                k_steps
                · unfold Hold
                  (rename Fr _ _ _ _ => F15); (rename News _ _ _ _ => N15)
                  (rename ((Txt.slice _ _ _ == _) = true) => hq3)
                  rw [sl_two (by omega)] at hq3
                  have hq3 := of_decide_eq_true hq3
                  rw [Int.toNat_natCast] at hq3
                  obtain ⟨st1, -, st3⟩ := chi_step (v := (far : Int) - (p : Int)) hC hFa hq hq2 (by omega)
                  obtain ⟨st1, st2⟩ := st1 hq3
                  exact lend ⟨far + 1, _, ns ++ [far - p], cvs ++ [_], nn + 1⟩ F15 N15 (fun _ h => nomatch h) (by kst_in) (fun _ h => nomatch h) (by kst_all) (by ksw_same) ⟨st1, by dsimp only; omega⟩
                · unfold Hold
                  (rename Fr _ _ _ _ => F15); (rename News _ _ _ _ => N15)
                  (rename ((Txt.slice _ _ _ == Str.ofString "\\\"") = false) => hq3)
                  rw [sl_two (by omega)] at hq3
                  have hq3 := of_decide_eq_false hq3
                  rw [Int.toNat_natCast] at hq3
                  obtain ⟨-, st1, st3⟩ := chi_step (v := (far : Int) - (p : Int)) hC hFa hq hq2 (by omega)
                  exact lend ⟨far, _, ns ++ [far - p], cvs ++ [_], nn + 1⟩ F15 N15 (fun _ h => nomatch h) (by kst_in) (fun _ h => nomatch h) (by kst_all) (by ksw_same) ⟨st1 hq3, by dsimp only; omega⟩
            · (rename ((Txt.slice _ _ _ == _) = false) => hq)
              rw [sl_one (by omega)] at hq
              have hq := of_decide_eq_false hq
              rw [Int.toNat_natCast] at hq
              (rename Fr _ _ _ _ => F11); (rename News _ _ _ _ => N11)
              have hnl := hC.len
              refine ⟨_, _, p, tp, u9 (Str.ofString "far"), ns, cvs, nn, rfl, rfl, hCl, hCh, fun _ => chi_end hC hq, (fun h0 => by rw [hesc] at h0; cases h0), by dsimp only at hnl; omega, hC.nums, N11, fr_far F11⟩
          · (rename Fr _ _ _ _ => F9); (rename News _ _ _ _ => N9)
            (rename ((Txt.slice _ _ _ == _) = false) => ha)
            rw [slice_last] at ha
            have ha := of_decide_eq_false ha
            have hesc : esc ((cl text).take k) = false := by
              cases e : esc ((cl text).take k) with
              | false => rfl
              | true => exact absurd (hez.mp e) ha
            exact ⟨_, _, k, t4, _, [], [], 0, rfl, rfl, Nat.le_refl _, hk, (fun h0 => by rw [hesc] at h0; cases h0), fun _ => rfl, by simp, .nil, N9, fr_keep F9 rfl⟩
        case crest =>
          intro f s' hmid
          obtain ⟨h5, tk5, p, tp, uf, ns, cvs, nc, rfl, rfl, hkp, hp, hc1, hc0, hnl, hni, N8, F8⟩ := hmid
          dsimp only at F8
          k_steps
          unfold Hold
          (rename Fr _ _ _ _ => F9); (rename News _ _ _ _ => N9)
          (rename (_ ∧ _ ∧ _ ∧ AllLt _ _) => hla)
          (rename (_ ∧ _ ∧ _ ∧ _ ∧ AllLt _ _) => hT9)
          refine append_K F9 N9 (Upd.tail (by k_ne) (Upd.tail (by k_ne) (Upd.tail (Ne.symm (hDne (lv, _) (.tail _ (.head _)))) (Upd.tail (by k_ne) (Upd.head fun q hq => ?off))))) ?_ (by have := hI.len; simp only [List.size_toArray]; unfold sizeLine; omega)
          case off =>
            rcases List.mem_append.mp hq with hq | hq
            · exact Nat.ne_of_gt (hI.above q hq)
            · exact Nat.ne_of_lt (hlv q hq)
          intro h10 F10 N10
          rw [List.push_toArray] at N10
          k_steps
          · unfold Hold
            (rename Fr _ _ _ _ => F11); (rename News _ _ _ _ => N11)
            (rename (decide _ = true) => hd)
            have hns : ns = [] := by simpa using of_decide_eq_true hd
            exact lv_end ⟨hT2, hB2, hX2, hTp2, hD2⟩ F11 N11 rfl (by ksw_same) ⟨hT9.2.2.2.1, hla.2.2.1⟩ hI (by assumption) hk hpre hat hp hkp hc1 hc0 (by rw [if_pos hns, e_is]) htold hni
          · unfold Hold
            (rename Fr _ _ _ _ => F11); (rename News _ _ _ _ => N11)
            (rename (decide _ = false) => hd)
            have hns : ns ≠ [] := by simpa using of_decide_eq_false hd
            exact lv_end ⟨hT2, hB2, hX2, hTp2, hD2⟩ F11 N11 rfl (by ksw_same) ⟨hT9.2.2.2.1, hla.2.2.1⟩ hI (by assumption) hk hpre hat hp hkp hc1 hc0 (by rw [if_neg hns, slice_from_cl (by omega) (by omega), Int.toNat_natCast]) htold hni
  · (rename Fr _ _ _ _ => F3); (rename News _ _ _ _ => N3)
    (rename ((text != _) = false) => he)
    have he2 : cl text = [] := by
      have e : text = Str.ofString "" := by simpa using he
      rw [e, e_is]
    obtain ⟨ls, h1, h2⟩ := lvi_end hI he2
    exact hret lv own vs nl ls _ _ h1 h2 hI.above hlv F3 N3
end

-- part X1
section
open PySem PySem.W PyProof.Rows
def InTok : Prop := True
theorem in_no {prog : Program} {w : World} {A : Around} {E Q : Value → Shared → Prop} {s : Shared} {x y : Str} {t u : Tok} (ho : (Builtin.Str.occurrences x y 0 x.length 1).isEmpty = true) (h : Q (.bool false) s) :
    wpAny (model prog w) A (compareOp .In (.str y u) (.str x t)) Q E s := in_str (by rw [ho]; exact h)
def InRd : Prop := True
abbrev RetX (news : List (Addr × Obj)) (text : Str) (h₀ : Heap) (L : Addr) (m : Str → Option Value) (s : Shared) (Q : Value → Shared → Prop) : Prop :=
  ∀ (t : Tok) (c' : Addr) (oc' : Obj) (vs' : Array Value) (t' : Tok) (h' : Heap) (tk' : Nat), oc'.data = .fields vs' → vs'[1]? = some (.str (Str.ofString "_law_lexed.<locals>.<lambda>") t') → @Ne Nat c' 149 →
    Fr h₀ L h' m → News h₀ L h' ((149, tabObj #[rawInt (129 : Int), rawInt (18 : Int), .ref c']) :: (c', oc') :: news) → Q (.str (Lf text) t) { s with heap := h', toks := tk' }
section
variable {tok text r : Str} {a : Nat} {l : List Nat}
theorem sg_is {d : Nat} {y : Str} (hy : y = ⟨#[d]⟩) : (((⟨#[a]⟩ : Str) == y) = true → a = d) ∧ (((⟨#[a]⟩ : Str) == y) = false → a ≠ d) := by
  subst hy
  rw [one_eq]
  exact ⟨of_decide_eq_true, of_decide_eq_false⟩
theorem lx_ret (hP : cl tok ++ Lx (a :: l) = Lx (cl text)) (h : ((⟨#[a]⟩ : Str) == Str.ofString "\"") = true) : tok = Lf text := by
  have e := (sg_is q_is).1 h
  subst e
  rw [Lx_q, List.append_nil] at hP
  exact str_ext hP
theorem lx_nil (hP : cl tok ++ Lx [] = Lx (cl text)) : tok = Lf text := by
  rw [show Lx [] = [] from rfl, List.append_nil] at hP
  exact str_ext hP
theorem lx_esc (hP : cl tok ++ Lx (a :: l) = Lx (cl text)) (h : ((⟨#[a]⟩ : Str) == Str.ofString "\\") = true) (hr : cl r = l.take 1) : cl (tok ++ r) ++ Lx l.tail = Lx (cl text) := by
  have e := (sg_is b_is).1 h
  subst e
  rw [← hP, cl_append, hr, Lx_e]
  cases l with
  | nil => simp [LxE, Lx]
  | cons c l => simp [LxE]
theorem lx_one (hP : cl tok ++ Lx (a :: l) = Lx (cl text)) (h : ((⟨#[a]⟩ : Str) == Str.ofString "\"") = false) (h2 : ((⟨#[a]⟩ : Str) == Str.ofString "\\") = false) : cl (tok ++ ⟨#[a]⟩) ++ Lx l = Lx (cl text) := by
  rw [← hP, cl_append, Lx_c ((sg_is q_is).2 h) ((sg_is b_is).2 h2)]
  simp [cl]
end
set_option maxRecDepth 100000 in
set_option maxHeartbeats 8000000 in
theorem lexed_claim (w : World) (mean : ExcName → Option Value) (mg mb : Str → Option Value) (ps : Array Value) (news : List (Addr × Obj)) (text : Str) (tt : Tok) (hl : text.length ≤ 1000) (h149 : ∀ q ∈ news, q.1 ≠ 149) (hps : LamTab (Str.ofString "_law_lexed.<locals>.<lambda>") 129 18 ps news)   :
    ∀ (dp un : Nat) (gd : Option (List Code)) (cn : Str) (cs : Scope) (a : Addr) (ccd : Value) (A₀ : Around) (h₀ : Heap) (L : Addr) (m : Str → Option Value) (s : Shared) (Q E : Value → Shared → Prop),
    CodeHd h₀ 153 149 → Below A₀ h₀ [] h₀ → Fr h₀ L s.heap m → (Mine.hd.heap_39 w.params).In h₀ → News h₀ L s.heap ((149, tabObj ps) :: news) → Top topProg (looseW Mine.hd.view_39 [] ++ List.map (fun x => x.name) (recsOf Mine.hd.view_39) ++ List.map (fun x => x.fst) (litsOf Mine.hd.view_39) ++ List.map (fun x => x.name) (clssOf Mine.hd.view_39 (looseW Mine.hd.view_39 []))) mean mg mb h₀ → cs.kind = .function → dp + 20 < recursionLimit → un + 160 < cLine → RetX news text h₀ L m s Q →
      wpAny (model PySem.Challenge.rw_wn0035_01.row.prog w) (ktrTop dp un gd cn cs L a ccd [] []) (call (.ref 154) [.str text tt]) Q E s := by
  k_fill
  intros; rename_i hret
  have hq1 : (Str.ofString "\"").length = 1 := by decide +kernel
  w_top off
  k_with_none
  k_with "call ref" => ((fail_if_success (have : InTok := by assumption)); (with_reducible show wpAny _ _ (call (Value.ref 81) _) _ _ _); refine hold ?_)
  k_with "call ref" => ((with_reducible rename InRd => zhInRd); (with_reducible show wpAny _ _ (call (Value.ref 74) _) _ _ _); refine hold ?_)
  k_with "call builtin:iter" => ((refine iter_K (by k_asm) (by k_asm) (by k_mem) ?_); intro zI' zh' zF' zN' zl1; (try k_lt zl1); (try k_sweep))
  k_with "compareOp In str str" => refine in_no (by assumption) ?_
  k_with "CiPost" => (dsimp only [CiPost])
  k_with "OnePost" => (dsimp only [OnePost])
  k_with "CiEnd" => (refine hold ?_)
  k_with "OneEnd" => (refine hold ?_)
  k_with "exec For Name Name cons nil" => refine hold ?_
  k_with "compareOp NotEq ref ref" => ((with_reducible rename Sg (List.cons _ _) _ => zhSg); refine hold ?_)
  k_with "getMethod ref" => ((with_reducible show wpAny _ _ (getMethod (Value.ref _) (PySem.Str.ofString "read") _) _ _ _); walk_at "last getMethod ref")
  k_with "call builtin:list.pop" => refine hold ?_
  k_with "call type:list" => ((refine list_signs rfl (by k_asm) (by k_asm) (by unfold sizeLine; omega) ?_); intro zl' zh' ztk' zys' zn' zY' zF' zN' zl1; (try k_lt zl1); (try k_sweep))
  k_with "eval Lambda" => (refine hold ?_)
  refine wpAny_call ?_
  k_dflt (refine' code_defC ?k1 ?k2 ?k3 ?k4 ?k5 ?kA ?kF ?kK ?k6 ?k7 ?k8 ?k9 ?kB ?kD ?_ ?c2 ?c3 ?c4; (case kA => exact rfl); (case kF => exact rfl); (case kK => assumption); (case k1 => k_asm); (case k2 => k_asm); (case k3 => k_asm); (case k4 => k_asm); (case k5 => k_asm); (case k6 => k_is); (case k7 => k_is); (case k8 => ktr_room); (case k9 => exact BindsTo.of_eq rfl); (case kB => exact rfl); (case kD => decide +kernel); (case c2 => exact rfl); (case c3 => exact rfl); (case c4 => exact rfl); k_whole; intro g' L' h' tk' cells' FG' F' N' Y' B' X' T' l1; (have hba := BelowA.mk (news := news) (fun p hp => l1 p (.tail _ hp))); (try k_lt l1); k_cells Y'; (try simp only [List.cons_append, List.nil_append] at N'); (try dsimp only); (try k_lift B'); (try k_fold))
  k_steps
  unfold Hold
  (rename CodeHd _ _ _ => hC)
  (rename Fr _ _ _ _ => F1); (rename News _ _ _ _ => N1)
  k_dflt (refine' kla_eval ?d0 ?_; (case d0 => exact rfl))
  k_dflt (refine' lam_either (d := L') (pre := [_, _, _, _, _]) F1 N1 T' (CodeHd.keeps hC (Below.stays B')) rfl ?k1 ?k2 h149 hps ?cl ?_)
  case cl => exact rfl
  case k1 => simp only [List.forall_mem_cons]; exact ⟨by (show @LE.le Nat _ _ _); omega, by (show @LE.le Nat _ _ _); omega, by (show @LE.le Nat _ _ _); omega, by (show @LE.le Nat _ _ _); omega, by (show @LE.le Nat _ _ _); omega, fun _ h => nomatch h⟩
  case k2 => exact List.forall_mem_cons.mpr ⟨by (show @LT.lt Nat _ _ _); omega, hba.h⟩
  intro f' c' oc' vs' t' ct' h' tk' F' N' d1' d2' l1 l2 l3 l4
  dsimp only [List.cons_append, List.nil_append] at N' l1
  k_lt l1
  simp only [AllNe, and_true] at l3
  clear F1 N1
  k_steps
  unfold Hold
  have hTok : InTok := trivial
  k_steps
  unfold Hold
  (rename Fr _ _ _ _ => F2); (rename News _ _ _ _ => N2)
  refine rd_cut N2 ?rd ?rest
  case rd =>
    unfold RdC
    intro s vs l n k kt m Q E hS hk0 hk1 F N hQ
    dsimp only [List.cons_append, List.nil_append] at F N hQ
    clear F2 N2
    have hS0 := hS
    k_dflt k_enter
    cases hS with
    | nil =>
      k_steps
      (rename Fr _ _ _ _ => Fq); (rename News _ _ _ _ => Nq)
      exact hQ _ _ _ _ [] _ _ _ ⟨rfl, .nil⟩ hk0 (by simp only [List.tail_nil]; omega) Fq (fun p hp => Nq p (.tail _ hp))
    | @cons c t vs' l' hS =>
      k_steps
      unfold Hold
      (rename News _ _ _ _ => Nc)
      refine cmp_ofNotEq ?_
      refine PySem.SeqAt.RcNeAt.lists_lengths (Nc.isList (by k_mem)) (Nc.isList (by k_mem)) ?sz ?un _ _ _ _ ?_
      case sz => simp
      case un => k_units
      k_steps
      unfold Hold
      (rename Fr _ _ _ _ => Fp); (rename News _ _ _ _ => Np)
      have hlen := hS.len
      simp only [List.length_cons] at hk1
      k_dflt (refine' kl_popAt (its := (Value.str ⟨#[c]⟩ t :: vs').toArray) (k := 0) (p := []) (y := Value.str ⟨#[c]⟩ t) (q := vs') Fp Np ?f ?k ?e ?U ?z ?_)
      case f => rfl
      case e => rfl
      case k => simp [seqIndex?]
      case U => k_upd
      case z => simp only [List.length_cons]; unfold sizeLine; omega
      intro h9 F9 N9
      dsimp only [List.nil_append, List.cons_append] at N9
      k_steps
      · (rename Fr _ _ _ _ => Fq); (rename News _ _ _ _ => Nq)
        exact hQ _ _ _ _ vs' _ _ _ ⟨rfl, hS⟩ (by omega) (by simp only [List.tail_cons]; omega) Fq (fun p hp => Nq p (.tail _ hp))
      · (rename Fr _ _ _ _ => Fq); (rename News _ _ _ _ => Nq)
        exact hQ _ _ _ _ vs' _ _ _ ⟨rfl, hS⟩ (by omega) (by simp only [List.tail_cons]; omega) Fq (fun p hp => Nq p (.tail _ hp))
  case rest =>
    intro rd
    have hRd : InRd := trivial
    (rename Frag.In _ _ => Xg)
    (rename Sg _ _ => hSg)
    rw [show cl (Str.ofString "\"" ++ text) = 34 :: cl text by rw [cl_append, q_is]; rfl] at hSg
    have hlt := len_cl text
    have hfn := Xg 74 _ rfl
    refine for_ci_one (fun m => ∃ (t : Tok) (u : Str → Option Value), m = fun y => if y = Str.ofString "token" then some (.str (Lf text) t) else u y) rd rfl rfl rfl rfl (ld F2 rfl ⟨rfl, rfl⟩) hfn rfl ?hne F2 N2 hSg ?hk0 ?hk1 ?turn ?done
    case hk0 => decide
    case hk1 => simp only [List.length_cons]; omega
    case hne =>
      dsimp only [List.cons_append, List.nil_append]
      repeat' (refine List.forall_mem_cons.mpr ⟨by k_ne, ?_⟩)
      exact fun p hp => neN (Nat.ne_of_lt (Nat.lt_of_lt_of_le (hba.h p hp) (by omega)))
    case turn =>
      intro h tk vs n k kt ta hS hk0 hk1 F3 N3
      rw [← q_is] at F3
      dsimp only [List.cons_append, List.nil_append] at N3
      clear F2 N2
      have hocc : (Builtin.Str.occurrences (Str.ofString "\n\t\r ") (Str.ofString "\"") 0 (Str.ofString "\n\t\r ").length 1).isEmpty = true := by decide +kernel
      k_steps
      unfold Hold
      (rename Fr _ _ _ _ => F4); (rename News _ _ _ _ => N4)
      refine for_ci (σ := Str × Tok) (fun c => [(Str.ofString "token", .str c.1 c.2)]) [Str.ofString "ch"] (fun l c => cl c.1 ++ Lx l = Lx (cl text)) (Str.ofString "", _) rd rfl rfl rfl rfl (ld F4 rfl ⟨rfl, rfl⟩) hfn rfl ?hne2 F4 N4 hS hk0 hk1 (by kst_all) ?hP2 ?turn2 ?done2
      case hP2 => rw [e_is]; rfl
      case hne2 =>
        dsimp only [List.cons_append, List.nil_append]
        repeat' (refine List.forall_mem_cons.mpr ⟨by k_ne, ?_⟩)
        exact fun p hp => neN (Nat.ne_of_lt (Nat.lt_of_lt_of_le (hba.h p hp) (by omega)))
      case turn2 =>
        rintro a l ⟨tok, tkt⟩ u h tk vs n k kt ta hP hS hk0 hk1 F5 N5
        dsimp only [kstB] at F5 hP
        dsimp only [List.cons_append, List.nil_append] at N5
        clear F4 N4
        have hLl := Lx_len (cl text)
        have htl : tok.length ≤ 1000 := by rw [len_cl]; have := congrArg List.length hP; rw [List.length_append] at this; omega
        k_steps
        · (rename Fr _ _ _ _ => Fz); (rename News _ _ _ _ => Nz)
          have e := lx_ret hP (by assumption)
          subst e
          exact hret _ c' oc' _ _ _ _ d1' d2' l4 Fz (nsub Nz (by kst_in))
        · unfold Hold
          (rename Fr _ _ _ _ => F6); (rename News _ _ _ _ => N6)
          refine rd_call rd hS hk0 hk1 F6 N6 ?_
          intro r ru h7 tk7 vs7 n7 k7 kt7 hr hS7 hk07 hk17 F7 N7
          dsimp only [List.cons_append, List.nil_append] at N7
          have hrl : r.length ≤ 1 := by rw [len_cl, hr, List.length_take]; omega
          k_steps
          unfold Hold
          (rename Fr _ _ _ _ => F8); (rename News _ _ _ _ => N8)
          refine ⟨l.tail, (_, _), _, _, _, vs7, n7, k7, kt7, rfl, by rw [List.length_tail]; omega, hS7, hk07, hk17, F8, N8, (by kst_all), (by ksw_same), lx_esc hP (by assumption) hr⟩
        · unfold Hold
          (rename Fr _ _ _ _ => F6); (rename News _ _ _ _ => N6)
          refine ⟨l, (_, _), _, _, _, vs, n, k, kt, rfl, Nat.le_refl _, hS, hk0, hk1, F6, N6, (by kst_all), (by ksw_same), lx_one hP (by assumption) (by assumption)⟩
      case done2 =>
        rintro ⟨tok, tkt⟩ u h tk n k kt hP F5 N5
        dsimp only [kstB] at F5 hP
        dsimp only [List.cons_append, List.nil_append] at N5
        clear F4 N4
        k_steps
        unfold Hold
        have e := lx_nil hP
        subst e
        refine ⟨_, _, _, n, k, kt, rfl, F5, N5, tkt, _, rfl⟩
    case done =>
      rintro m h tk n k kt ⟨t, u, rfl⟩ F3 N3
      dsimp only [List.cons_append, List.nil_append] at N3
      clear F2 N2
      k_steps
      (rename Fr _ _ _ _ => Fz); (rename News _ _ _ _ => Nz)
      exact hret _ c' oc' _ _ _ _ d1' d2' l4 Fz (nsub Nz (by kst_in))
end

-- part T1
section
open PySem PySem.W PyProof.Rows
abbrev RetT (news : List (Addr × Obj)) (h₀ : Heap) (L : Addr) (m : Str → Option Value) (s : Shared) (Q : Value → Shared → Prop) : Prop :=
  ∀ (x : Str) (t : Tok) (h' : Heap) (tk' : Nat), x.length ≤ 200 → x.cps.all (· < 128) = true → Fr h₀ L h' m → News h₀ L h' news → Q (.str x t) { s with heap := h', toks := tk' }
set_option maxRecDepth 100000 in
set_option maxHeartbeats 8000000 in
theorem text_claim (w : World) (mean : ExcName → Option Value) (mg mb : Str → Option Value) (news : List (Addr × Obj)) (sa : Addr) (vs : List Value) (ns : List Int) (hi : IntsAre vs ns) (h63 : ns.length ≤ 63) :
    ∀ (dp un : Nat) (gd : Option (List Code)) (cn : Str) (cs : Scope) (a : Addr) (ccd : Value) (A₀ : Around) (h₀ : Heap) (L : Addr) (m : Str → Option Value) (s : Shared) (Q E : Value → Shared → Prop),
    h₀.IsList sa vs.toArray → Below A₀ h₀ [] h₀ → Fr h₀ L s.heap m → (Mine.hd.heap_39 w.params).In h₀ → News h₀ L s.heap news → Top topProg (looseW Mine.hd.view_39 [] ++ List.map (fun x => x.name) (recsOf Mine.hd.view_39) ++ List.map (fun x => x.fst) (litsOf Mine.hd.view_39) ++ List.map (fun x => x.name) (clssOf Mine.hd.view_39 (looseW Mine.hd.view_39 []))) mean mg mb h₀ → cs.kind = .function → dp + 20 < recursionLimit → un + 160 < cLine → RetT news h₀ L m s Q →
      wpAny (model PySem.Challenge.rw_wn0035_01.row.prog w) (ktrTop dp un gd cn cs L a ccd [] []) (call (.ref 135) [.ref sa]) Q E s := by
  k_fill
  intros; rename_i hret
  w_top off
  k_with_none
  k_with "eval ListComp" => (refine hold ?_)
  k_with "CompEnd" => (refine hold ?_)
  k_with "call builtin:str.join" => (refine hold ?_)
  k_with "CompSrc" => (refine hold ?_)
  k_with "table" => skip
  refine wpAny_call ?_
  k_dflt (refine' code_defC ?k1 ?k2 ?k3 ?k4 ?k5 ?kA ?kF ?kK ?k6 ?k7 ?k8 ?k9 ?kB ?kD ?_ ?c2 ?c3 ?c4; (case kA => exact rfl); (case kF => exact rfl); (case kK => assumption); (case k1 => k_asm); (case k2 => k_asm); (case k3 => k_asm); (case k4 => k_asm); (case k5 => k_asm); (case k6 => k_is); (case k7 => k_is); (case k8 => ktr_room); (case k9 => exact BindsTo.of_eq rfl); (case kB => exact rfl); (case kD => decide +kernel); (case c2 => exact rfl); (case c3 => exact rfl); (case c4 => exact rfl); k_whole; intro g' L' h' tk' cells' FG' F' N' Y' B' X' T' l1; (have hba := BelowA.mk (news := news) (fun p hp => l1 p hp)); (try k_lt l1); k_cells Y'; (try simp only [List.cons_append, List.nil_append] at N'); (try dsimp only); (try k_lift B'); (try k_fold))
  k_steps
  unfold Hold
  k_dflt (refine LCg.ListComp_U (F₀ := by k_asm) (by with_unfolding_all rfl) (by decide) (by rfl) (by decide) (by rfl) ?_)
  k_steps
  unfold Hold
  (rename Fr _ _ _ _ => F1); (rename News _ _ _ _ => N1); (rename IntsAre _ (List.take _ _) => hI)
  have hlen := hI.length
  rw [List.length_take] at hlen
  k_dflt (refine LCg.CompSrc.ledger rfl F1 N1 (.head _) (by rw [List.size_toArray]; unfold sizeLine; omega) ?_)
  intro g9
  refine comp_texts 8 hI ?turn ?fin
  case turn =>
    intro k t I oI C oC D m₂ ys h tk E' hC hx F2 N2 off ne
    have off0 := off
    simp only [LCg.Off3] at off
    k_steps
    unfold Hold
    (rename Fr _ _ _ _ => F3); (rename News _ _ _ _ => N3)
    exact ⟨_, _, _, rfl, F3, N3, off0, .inr ⟨_, .head _, rfl, _, rfl⟩, rfl, _, _, rfl, sh_getD (by decide +kernel) _⟩
  case fin =>
    intro l hl hll
    k_steps
    unfold Hold
    (rename Fr _ _ _ _ => F3); (rename News _ _ _ _ => N3)
    have hb8 : l.length * 8 ≤ 96 := by omega
    refine SC.join (N3.isList (.head _)) rfl (tx_ok hl (by omega)) ?_
    intro t9 k9
    have hj := tx_join hl
    have hf : Sh 20 ([Str.ofString "b\\\"\"\\\"\"", Str.ofString "", Str.ofString "\\\\\\\"\"\"\"\\\"\"\"\"", Str.ofString "c\\\"\\\"\\\"\\\""].getD ((ns.length : Int).fmod 4).toNat Str.empty) := sh_getD (by decide +kernel) _
    generalize Txt.join _ _ = xj at hj ⊢
    generalize List.getD _ _ Str.empty = xf at hf ⊢
    have hj1 := hj.1
    have hf1 := hf.1
    have hxj : xj.length ≤ 100 := by omega
    k_steps
    (rename Fr _ _ _ _ => F4); (rename News _ _ _ _ => N4)
    exact hret _ _ _ _ (by rw [Str.length_append]; omega) (all_append hf.2 hj.2) F4 (nsub N4 (by kst_in))
end

-- part L1
section
open PySem PySem.W PyProof.Rows
theorem h63_of {n : Nat} (h : ¬ ((63 : Nat) : Int) < (n : Int)) : n ≤ 63 := by omega
structure LwS where
  text : Str
  tt : Tok
  pv : Array Value
  news : List (Addr × Obj)
structure LwI (t0 : Str) (lv : Addr) (lo : Obj) (own : List (Addr × Obj)) (i : Nat) (c : LwS) : Prop where
  text_eq : c.text = Pfn i t0
  lam : LamTab (Str.ofString "_law_lexed.<locals>.<lambda>") 129 18 c.pv c.news
  ne : ∀ q ∈ c.news, q.1 ≠ 149
  lvm : (lv, lo) ∈ c.news
  ownm : ∀ q ∈ own, q ∈ c.news
theorem lwi_start {t0 : Str} {tt : Tok} {lv : Addr} {lo : Obj} {own : List (Addr × Obj)} (h1 : 149 < lv) (h2 : ∀ q ∈ own, lv < q.1) : LwI t0 lv lo own 0 ⟨t0, tt, #[], (lv, lo) :: own⟩ := by
  refine ⟨rfl, .inl rfl, ?_, .head _, fun q hq => .tail _ hq⟩
  intro q hq
  rcases List.mem_cons.mp hq with rfl | hq
  · exact Nat.ne_of_gt h1
  · exact Nat.ne_of_gt (Nat.lt_trans h1 (h2 q hq))
theorem resp_len {x : Str} (h : x.length ≤ 200) : (Str.ofString "257 \"" ++ x).length ≤ 1000 := by
  have : (Str.ofString "257 \"").length = 5 := by decide +kernel
  rw [Str.length_append]
  omega
theorem LamTab.more {q : Str} {l c : Int} {ps : Array Value} {news : List (Addr × Obj)} {p : Addr × Obj} (h : LamTab q l c ps news) : LamTab q l c ps (p :: news) := by
  rcases h with rfl | ⟨c', oc, vs, t, rfl, hm, h1, h2⟩
  · exact .inl rfl
  · exact .inr ⟨c', oc, vs, t, rfl, .tail _ hm, h1, h2⟩
theorem cne {h : Heap} {c I : Addr} {oc : Obj} {vs : Array Value} {x left : Int} {q : Str} {t : Tok} (h1 : h.get? c = some oc) (h2 : h.get? I = some (rgObj x left)) (d1 : oc.data = .fields vs) (d2 : vs[1]? = some (.str q t)) : c ≠ I := by
  rintro rfl
  rw [h1] at h2
  cases h2
  cases d1
  cases d2
theorem levsIn_mono {n1 n2 : List (Addr × Obj)} {vs : List Value} {ls : List (List Nat × List Nat)} (hs : ∀ q ∈ n1, q ∈ n2) (h : LevsIn n1 vs ls) : LevsIn n2 vs ls := by
  refine ⟨h.1, fun i a ha => ?_⟩
  obtain ⟨T, v1, v2, n', h1, h2, x, tt, c, n, cvs, e1, e2, e3, e4, e5⟩ := h.2 i a ha
  exact ⟨T, v1, v2, n', h1, hs _ h2, x, tt, c, n, cvs, e1, e2, e3, hs _ e4, e5⟩
theorem ne_same {prog : Program} {w : World} {A : Around} {E Q : Value → Shared → Prop} {s : Shared} {x : Str} {t u : Tok} (h : Q (.bool false) s) : wpAny (model prog w) A (compareOp .NotEq (.str x t) (.str x u)) Q E s := by
  refine PyProof.Rows.ne_str ?_
  simpa using h
set_option maxRecDepth 100000 in
set_option maxHeartbeats 8000000 in
theorem law_holds : PySem.Challenge.rw_wn0035_01.Holds := Mine.hd (by
  w_top off
  k_with_none
  k_with "call ref" => (refine hold ?_)
  k_with "call type:range" => (refine hold ?_)
  k_with "exec For Name Call cons nil" => (refine hold ?_)
  k_with "compareOp NotEq str str" => (refine ne_same ?_)
  k_with "LPost" => (dsimp only [LPost])
  k_with "LEnd" => (refine hold ?_)
  k_go0; (all_goals try k_fold)
  (rename Fr _ _ _ _ => F0); (rename News _ _ _ _ => N0); (rename Frag.In _ _ => X0); (rename Top topProg _ _ _ _ _ => T0); (rename Below _ _ _ _ => K0); (rename IntsAre _ _ => hi)
  (rename ¬ _ => h6)
  k_steps
  unfold Hold
  refine text_claim _ _ _ _ [(149, tabObj #[])] _ _ _ hi (h63_of h6) _ _ _ _ _ _ _ _ _ _ _ _ _ _ lifted K0 F0 X0 N0 T0 rfl (by decide) (by decide) ?_
  intro text tt h1 tk1 htl hasc F1 N1
  k_steps
  unfold Hold
  (rename Fr _ _ _ _ => F2); (rename News _ _ _ _ => N2)
  refine levels_claim _ _ _ _ [(149, tabObj #[])] text tt (by omega) hasc _ _ _ _ _ _ _ _ _ _ _ _ _ _ K0 F2 X0 N2 T0 rfl (by decide) (by decide) ?_
  intro lv own vs nl ls h2 tk2 hLevs hLev hown hnews F3 N3
  k_steps
  unfold Hold
  refine For_meas ?_
  k_steps
  unfold Hold
  (rename Fr _ _ _ _ => F4); (rename News _ _ _ _ => N4)
  have h149o : 149 < lv := hnews _ (.head _)
  refine range_loop (n := 4) (fun c : LwS => (149, tabObj c.pv) :: c.news) (fun c => [(Str.ofString "text", .str c.text c.tt)]) [Str.ofString "before", Str.ofString "told", Str.ofString "behind"] (LwI text lv (listOf vs.toArray nl) own) ⟨text, tt, #[], (lv, listOf vs.toArray nl) :: own⟩ rfl rfl rfl rfl (by decide) F4 (nsub N4 ?n0) (by kst_all) ?p0 ?turn ?done
  case n0 =>
    intro p hp
    rcases List.mem_cons.mp hp with rfl | hp
    · exact .tail _ (List.mem_append_right _ (.head _))
    · rcases List.mem_cons.mp hp with rfl | hp
      · exact .head _
      · exact .tail _ (List.mem_append_left _ hp)
  case p0 => exact lwi_start h149o hown
  case done =>
    intro c u h tk hP F5 N5
    dsimp only [kstB] at F5
    k_steps
  case turn =>
    rintro i ⟨tx, ttx, pv, nws⟩ u h tk ti It hi4 hP hne F5 N5
    dsimp only [kstB] at F5 N5 hne
    obtain ⟨hP1, hP2, hP3, hP4, hP5⟩ := hP
    dsimp only at hP1 hP2 hP3 hP4 hP5
    have htxl : tx.length ≤ 200 := by rw [hP1]; exact Nat.le_trans (Pfn_len _ _) htl
    have h149I : @Ne Nat It 149 := Ne.symm (hne _ (.head _))
    k_steps
    unfold Hold
    refine lexed_claim _ _ _ _ pv ((It, rgObj ((i : Int) + 1) (((4 : Nat) : Int) - (i : Int) - 1)) :: nws) tx ttx (by omega) (List.forall_mem_cons.mpr ⟨h149I, hP3⟩) (LamTab.more hP2) _ _ _ _ _ _ _ _ _ _ _ _ _ _ codeHd K0 F5 X0 (nsub N5 (by kst_in)) T0 rfl (by decide) (by decide) ?_
    intro t6 c' oc' vs' t' h6 tk6 d1 d2 d3 F6 N6
    have hcI : c' ≠ It := cne (N6 _ (.tail _ (.head _))).1 (N6 _ (.tail _ (.tail _ (.head _)))).1 d1 d2
    have hLl : (Lf tx).length ≤ 200 := Nat.le_trans (Lf_len _) htxl
    k_steps
    unfold Hold
    refine For_meas ?_
    k_steps
    unfold Hold
    (rename Fr _ _ _ _ => F7); (rename News _ _ _ _ => N7)
    rw [show (4 : Int) - (i : Int) = ((4 - i : Nat) : Int) by omega]
    refine range_loop (n := 4 - i) (σ := Str × Tok) (fun _ => (149, tabObj #[rawInt 129, rawInt 18, Value.ref c']) :: (c', oc') :: (It, rgObj ((i : Int) + 1) (((4 : Nat) : Int) - (i : Int) - 1)) :: nws) (fun c => [(Str.ofString "told", .str c.1 c.2)]) [Str.ofString "behind"] (fun a c => c.1 = Pfn a (Lf tx)) (Lf tx, t6) rfl rfl rfl rfl (by omega) F7 N7 (by kst_all) rfl ?turn2 ?done2
    case turn2 =>
      rintro a ⟨told, ttd⟩ u2 h8 tk8 ta It2 ha hPt hne2 F8 N8
      dsimp only [kstB] at F8 hPt
      have htd : told.length ≤ 200 := by rw [hPt]; exact Nat.le_trans (Pfn_len _ _) hLl
      have hdue : Duef i a ls = told := by rw [hPt, hP1]; exact (told_due hLev).symm
      k_steps
      unfold Hold
      refine due_claim _ _ _ _ _ _ _ lv vs nl ls i a ti ta (by omega) (by omega) ?hl ?hls ?hdl ?hbd _ _ _ _ _ _ _ _ _ _ _ _ _ _ _ _ _ K0 F8 X0 N8 T0 rfl (by decide) (by decide) ?_
      case hl => exact .tail _ (.tail _ (.tail _ (.tail _ hP4)))
      case hls => exact levsIn_mono (fun q hq => .tail _ (.tail _ (.tail _ (.tail _ (hP5 q hq))))) hLevs
      case hdl => exact Nat.le_trans (due_len hLev) (by omega)
      case hbd => exact fun x hx => ⟨by have := (lev_len hLev x hx).1; rw [← len_cl] at this; omega, by have := (lev_len hLev x hx).2; rw [← len_cl] at this; omega⟩
      intro t9 h9 tk9 F9 N9
      dsimp only
      rw [hdue]
      k_steps
      unfold Hold
      (rename Fr _ _ _ _ => F10); (rename News _ _ _ _ => N10)
      refine parse_claim _ _ _ _ _ _ _ _ told _ (resp_cl told) (resp_len htd) _ _ _ _ _ _ _ _ _ _ _ _ _ _ _ _ _ K0 F10 X0 N10 T0 rfl trivial (by decide) (by decide) ?_
      intro t11 h11 tk11 F11 N11
      dsimp only
      k_steps
      unfold Hold
      (rename Fr _ _ _ _ => F12); (rename News _ _ _ _ => N12)
      refine lend (Pf told, _) F12 N12 (by kst_in) (by kst_in) (by intro q hq p hp; rcases List.mem_singleton.mp hq with rfl; exact hne2 p hp) (by kst_all) (by ksw_same) (congrArg Pf hPt)
    case done2 =>
      rintro ⟨told, ttd⟩ u2 h8 tk8 hPt F8 N8
      dsimp only [kstB] at F8
      k_steps
      unfold Hold
      (rename Fr _ _ _ _ => F10); (rename News _ _ _ _ => N10)
      refine parse_claim _ _ _ _ _ _ _ _ tx _ (resp_cl tx) (resp_len htxl) _ _ _ _ _ _ _ _ _ _ _ _ _ _ _ _ _ K0 F10 X0 N10 T0 rfl trivial (by decide) (by decide) ?_
      intro t11 h11 tk11 F11 N11
      dsimp only
      k_steps
      unfold Hold
      (rename Fr _ _ _ _ => F12); (rename News _ _ _ _ => N12)
      refine lend ⟨Pf tx, _, #[rawInt 129, rawInt 18, Value.ref c'], (c', oc') :: nws⟩ F12 N12 (by kst_in) (by kst_in) ?off (by kst_all) (by ksw_same) ⟨congrArg Pf hP1, .inr ⟨c', oc', vs', t', rfl, .head _, d1, d2⟩, List.forall_mem_cons.mpr ⟨d3, hP3⟩, .tail _ hP4, fun q hq => .tail _ (hP5 q hq)⟩
      intro q hq p hp
      rcases List.mem_singleton.mp hq with rfl
      rcases List.mem_cons.mp hp with rfl | hp
      · exact Ne.symm h149I
      · rcases List.mem_cons.mp hp with rfl | hp
        · exact hcI
        · exact hne p (.tail _ hp))
end
end Mine
end

theorem PySem.Challenge.cw_wn0035_01_holds : PySem.Challenge.rw_wn0035_01.Holds :=
  Mine.law_holds
