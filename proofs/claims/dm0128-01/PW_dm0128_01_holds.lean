import PyProof.Rows.All
import Wide.All
import OpenK.AllK
import Wide.FinOn
import PySem.Challenge.RW_dm0128_01
section
open PySem PySem.W PyProof.Rows
set_option Elab.async false
set_option maxRecDepth 100000
set_option maxHeartbeats 8000000
namespace Mine
open_top hd for PySem.Challenge.rw_dm0128_01
end Mine
end
section
open PySem PySem.W PyProof.Rows
set_option Elab.async false
namespace Mine

/-- the thirteen operations with their ranks -/
def rankTab : List (Str × Int) := [("||", 1), ("&&", 2), ("==", 3), ("!=", 3), ("<", 4), (">", 4), ("<=", 4), (">=", 4), ("+", 5), ("-", 5), ("*", 6), ("/", 6), ("%", 6)]
def opsL : List Str := rankTab.map (·.1)
def rk (x : Str) : Int := (rankTab.lookup x).getD 0
abbrev IsOp (x : Str) : Prop := x ∈ opsL
/-- the word that stands in the Python text -/
def py (x : Str) : Str := if x = "||" then "or" else if x = "&&" then "and" else if x = "/" then "//" else x

inductive Opd where
  | n | four | sept | bang
def Opd.toks : Opd → List Str
  | .n => ["n"] | .four => ["4"] | .sept => ["017"] | .bang => ["!", "n"]
def Opd.word : Opd → Str
  | .n => "n" | .four => "4" | .sept => "017" | .bang => "! n"
def Opd.text : Opd → Str
  | .n => "n" | .four => "4" | .sept => "17" | .bang => "not n"

def par (t : Str) : Str := ("(" : Str) ++ t ++ (")" : Str)
abbrev cmp (w : Int) : Prop := w = 3 ∨ w = 4
def br (w v : Int) (t : Str) : Str := if cmp w ∧ cmp v then par t else t
def fin (p : Int) (j : Int) (r : Str) : Str := if j = p ∧ p = 4 then par r else r
def glue (a : Str) (op : Str) (b : Str) : Str := a ++ (" " : Str) ++ py op ++ (" " : Str) ++ b

inductive Words : List Str → List Str → Str → Int → Prop
  | one (o : Str) : Words [o] [] o 7
  | cut {os1 os2 ps1 ps2 : List Str} {op t1 t2 : Str} {w1 w2 : Int} : IsOp op → (∀ q ∈ ps1, IsOp q ∧ rk op ≤ rk q) → (∀ q ∈ ps2, IsOp q ∧ rk op < rk q) →
      Words os1 ps1 t1 w1 → Words os2 ps2 t2 w2 → Words (os1 ++ os2) (ps1 ++ op :: ps2) (glue (br (rk op) w1 t1) op (br (rk op) w2 t2)) (rk op)

inductive Loops : Int → Str → Int → Str → List Str → Str → Int → Str → List Str → Prop
  | stop {p : Int} {r : Str} {j : Int} {y : Str} {ts : List Str} : (IsOp y → rk y < p) → (y = "?" → 0 < p) → r.length ≤ 4000 → Loops p r j y ts r j y ts
  | step {p : Int} {r : Str} {j : Int} {y : Str} {o : Opd} {y1 : Str} {ts1 : List Str} {r1 : Str} {j1 : Int} {z : Str} {ts2 : List Str} {r' : Str} {j' : Int} {y' : Str} {ts' : List Str} :
      IsOp y → p ≤ rk y → r.length ≤ 4000 → Loops (rk y + 1) o.text 100 y1 ts1 r1 j1 z ts2 → Loops p (glue (br (rk y) j r) y (fin (rk y + 1) j1 r1)) (rk y) z ts2 r' j' y' ts' → Loops p r j y (o.toks ++ y1 :: ts1) r' j' y' ts'

theorem rk_bounds {x : Str} (h : IsOp x) : 1 ≤ rk x ∧ rk x ≤ 6 := by
  have : ∀ x ∈ opsL, 1 ≤ rk x ∧ rk x ≤ 6 := by decide +kernel
  exact this x h
theorem py_len {x : Str} (h : IsOp x) : (py x).length ≤ 3 := by
  have : ∀ x ∈ opsL, (py x).length ≤ 3 := by decide +kernel
  exact this x h
theorem text_len (o : Opd) : o.text.length ≤ 5 := by cases o <;> decide +kernel

theorem Words.len : ∀ {os ps : List Str} {t : Str} {w : Int}, Words os ps t w → os.length = ps.length + 1
  | _, _, _, _, .one _ => rfl
  | _, _, _, _, .cut _ _ _ a b => by
    have h1 := a.len; have h2 := b.len
    simp only [List.length_append, List.length_cons]; omega
theorem Words.low {os ps : List Str} {t : Str} {w : Int} (h : Words os ps t w) : ∀ q ∈ ps, w ≤ rk q := by
  cases h with
  | one => intro q hq; cases hq
  | cut ho h1 h2 _ _ =>
    intro q hq
    rcases List.mem_append.mp hq with hq | hq
    · exact (h1 q hq).2
    · rcases List.mem_cons.mp hq with rfl | hq
      · exact Int.le_refl _
      · exact Int.le_of_lt (h2 q hq).2

theorem Words.att {os ps : List Str} {t : Str} {w : Int} (h : Words os ps t w) : (ps = [] ∧ w = 7) ∨ ∃ q ∈ ps, IsOp q ∧ w = rk q := by
  cases h with
  | one => exact .inl ⟨rfl, rfl⟩
  | cut ho h1 h2 _ _ => exact .inr ⟨_, List.mem_append_right _ List.mem_cons_self, ho, rfl⟩

theorem par_len (t : Str) : (par t).length = t.length + 2 := by
  unfold par
  rw [Str.length_append, Str.length_append, show (PySem.Str.ofString "(").length = 1 by decide +kernel, show (PySem.Str.ofString ")").length = 1 by decide +kernel]; omega
theorem br_len (w v : Int) (t : Str) : (br w v t).length ≤ t.length + 2 := by
  unfold br; split
  · rw [par_len]; exact Nat.le_refl _
  · omega
theorem fin_len (p j : Int) (t : Str) : (fin p j t).length ≤ t.length + 2 := by
  unfold fin; split
  · rw [par_len]; exact Nat.le_refl _
  · omega
theorem glue_len {op : Str} (a b : Str) (h : IsOp op) : (glue a op b).length ≤ a.length + b.length + 5 := by
  unfold glue
  rw [Str.length_append, Str.length_append, Str.length_append, Str.length_append, show (PySem.Str.ofString " ").length = 1 by decide +kernel]
  have := py_len h; omega

/-- tokens of the rest of a chain -/
def strm (c : List (Str × Opd)) (base : List Str) : List Str := c.foldr (fun q acc => q.1 :: (q.2.toks ++ acc)) base
theorem strm_cons (q : Str × Opd) (c : List (Str × Opd)) (base : List Str) : strm (q :: c) base = q.1 :: (q.2.toks ++ strm c base) := rfl
def opdTexts (o : Opd) (d : List (Str × Opd)) : List Str := o.text :: d.map (·.2.text)
def Weak (j w : Int) (d : List (Str × Opd)) : Prop := (d = [] ∧ j = 100 ∧ w = 7) ∨ (d ≠ [] ∧ j = w)

theorem strm_ne (c : List (Str × Opd)) {tail : Str} {rest : List Str} : ∃ y ts, strm c (tail :: rest) = y :: ts := by
  cases c with
  | nil => exact ⟨_, _, rfl⟩
  | cons q c => exact ⟨_, _, rfl⟩

theorem fin_eq_br {k j w : Int} {t : Str} {d : List (Str × Opd)} (hw : Weak j w d) (hl : w = 7 ∨ k + 1 ≤ w) : fin (k + 1) j t = br k w t := by
  unfold fin br cmp
  rcases hw with ⟨_, rfl, rfl⟩ | ⟨_, rfl⟩
  · rw [if_neg (by omega), if_neg (by omega)]
  · by_cases h : j = k + 1 ∧ k + 1 = 4
    · rw [if_pos h, if_pos (by omega)]
    · rw [if_neg h, if_neg (by omega)]
theorem br_weak {k j w : Int} {t : Str} {d : List (Str × Opd)} (hw : Weak j w d) : br k j t = br k w t := by
  rcases hw with ⟨_, rfl, rfl⟩ | ⟨_, rfl⟩
  · unfold br cmp; rw [if_neg (by omega), if_neg (by omega)]
  · rfl

/-- one chain, read from inside: what stands so far, what is still to come -/
theorem plain_run (tail : Str) (rest : List Str) (ht : ¬ IsOp tail) : ∀ (N : Nat) (c : List (Str × Opd)), c.length ≤ N → ∀ (p : Int) (o : Opd) (d : List (Str × Opd)) (t : Str) (w j : Int),
    (tail = "?" → 0 < p) → (∀ q ∈ c, IsOp q.1) → (∀ q ∈ d, IsOp q.1) → Words (opdTexts o d) (d.map (·.1)) t w → Weak j w d → (∀ q ∈ c.head?, p ≤ rk q.1 → rk q.1 ≤ j) → (∀ q ∈ d, p ≤ rk q.1) → t.length ≤ 14 * d.length + 5 → d.length + c.length ≤ 63 →
    ∃ (d' : List (Str × Opd)) (c' : List (Str × Opd)) (t' : Str) (w' j' : Int) (y : Str) (ts : List Str) (y' : Str) (ts' : List Str),
      c = d' ++ c' ∧ (∀ q ∈ d', p ≤ rk q.1) ∧ (∀ q ∈ c'.head?, rk q.1 < p) ∧ Words (opdTexts o (d ++ d')) ((d ++ d').map (·.1)) t' w' ∧ Weak j' w' (d ++ d') ∧ t'.length ≤ 14 * (d ++ d').length + 5 ∧
      strm c (tail :: rest) = y :: ts ∧ strm c' (tail :: rest) = y' :: ts' ∧ Loops p t j y ts t' j' y' ts' := by
  intro N
  induction N with
  | zero =>
    intro c hc p o d t w j hq hc1 hd1 W hW hh hp hlen hsum
    have : c = [] := List.length_eq_zero_iff.mp (Nat.le_zero.mp hc)
    subst this
    refine ⟨[], [], t, w, j, tail, rest, tail, rest, rfl, (by simp), (by simp), ?_, ?_, ?_, rfl, rfl, .stop (fun h => absurd h ht) hq (by simp at hsum; omega)⟩
    · simpa using W
    · simpa using hW
    · simpa using hlen
  | succ N ih =>
    intro c hc p o d t w j hq hc1 hd1 W hW hh hp hlen hsum
    cases c with
    | nil =>
      refine ⟨[], [], t, w, j, tail, rest, tail, rest, rfl, (by simp), (by simp), ?_, ?_, ?_, rfl, rfl, .stop (fun h => absurd h ht) hq (by simp at hsum; omega)⟩
      · simpa using W
      · simpa using hW
      · simpa using hlen
    | cons q c =>
      obtain ⟨op, o1⟩ := q
      have hop : IsOp op := hc1 (op, o1) List.mem_cons_self
      have hr := rk_bounds hop
      simp only [List.length_cons] at hc hsum
      by_cases hlt : rk op < p
      · refine ⟨[], (op, o1) :: c, t, w, j, op, o1.toks ++ strm c (tail :: rest), op, o1.toks ++ strm c (tail :: rest), rfl, (by simp), (by simpa using hlt), ?_, ?_, ?_, rfl, rfl, .stop (fun _ => hlt) (fun e => ?_) (by omega)⟩
        · simpa using W
        · simpa using hW
        · simpa using hlen
        · subst e; exact absurd hop (by decide +kernel)
      · have hle : p ≤ rk op := by omega
        -- the right side
        obtain ⟨d1, c1, t1, w1, j1, y1, ts1, z, ts2, e1, l1, f1, W1, hW1, len1, s1, s2, L1⟩ :=
          ih c (by omega) (rk op + 1) o1 [] o1.text 7 100 (fun _ => by omega) (fun q h => hc1 q (List.mem_cons_of_mem _ h)) (by simp) (.one _) (.inl ⟨rfl, rfl, rfl⟩) (by intro q hq' _; have := rk_bounds (hc1 q (List.mem_cons_of_mem _ (List.mem_of_head? hq'))); omega) (by simp) (by have := text_len o1; simp; omega) (by simp; omega)
        rw [List.nil_append] at W1 hW1 len1
        have hjop : rk op ≤ j := hh (op, o1) rfl hle
        have hd : ∀ q ∈ d, rk op ≤ rk q.1 := by
          intro q hq'
          rcases hW with ⟨rfl, _, _⟩ | ⟨_, rfl⟩
          · cases hq'
          · exact Int.le_trans hjop (W.low _ (List.mem_map_of_mem hq'))
        have Wn : Words (opdTexts o (d ++ (op, o1) :: d1)) ((d ++ (op, o1) :: d1).map (·.1)) (glue (br (rk op) w t) op (br (rk op) w1 t1)) (rk op) := by
          have := Words.cut (os1 := opdTexts o d) (os2 := opdTexts o1 d1) (ps1 := d.map (·.1)) (ps2 := d1.map (·.1)) hop
            (fun q hq' => by obtain ⟨x, hx, rfl⟩ := List.mem_map.mp hq'; exact ⟨hd1 x hx, hd x hx⟩)
            (fun q hq' => by obtain ⟨x, hx, rfl⟩ := List.mem_map.mp hq'; exact ⟨hc1 x (List.mem_cons_of_mem _ (e1 ▸ List.mem_append_left _ hx)), by have := l1 x hx; omega⟩) W W1
          simpa [opdTexts] using this
        have hlen1 : d1.length + c1.length = c.length := by rw [e1, List.length_append]
        have hgl : (glue (br (rk op) w t) op (br (rk op) w1 t1)).length ≤ 14 * (d ++ (op, o1) :: d1).length + 5 := by
          have a := glue_len (br (rk op) w t) (br (rk op) w1 t1) hop
          have b1 := br_len (rk op) w t
          have b2 := br_len (rk op) w1 t1
          simp only [List.length_append, List.length_cons]; omega
        obtain ⟨d2, c2, t2, w2, j2, y2, ts3, z2, ts4, e2, l2, f2, W2, hW2, len2, s3, s4, L2⟩ :=
          ih c1 (by omega) p o (d ++ (op, o1) :: d1) _ (rk op) (rk op) hq (fun q h => hc1 q (List.mem_cons_of_mem _ (e1 ▸ List.mem_append_right _ h)))
            (fun q h => by
              rcases List.mem_append.mp h with h | h
              · exact hd1 q h
              · rcases List.mem_cons.mp h with rfl | h
                · exact hop
                · exact hc1 q (List.mem_cons_of_mem _ (e1 ▸ List.mem_append_left _ h)))
            Wn (.inr ⟨by simp, rfl⟩) (fun q hq' _ => by have := f1 q hq'; omega)
            (fun q h => by
              rcases List.mem_append.mp h with h | h
              · exact hp q h
              · rcases List.mem_cons.mp h with rfl | h
                · exact hle
                · have := l1 q h; omega) hgl (by simp only [List.length_append, List.length_cons]; omega)
        have e3 : d ++ (op, o1) :: d1 ++ d2 = d ++ ((op, o1) :: d1 ++ d2) := by simp
        rw [e3] at W2 hW2 len2
        rw [s2] at s3
        obtain ⟨rfl, rfl⟩ := List.cons.inj s3
        refine ⟨(op, o1) :: d1 ++ d2, c2, t2, w2, j2, op, o1.toks ++ y1 :: ts1, z2, ts4, by rw [e1, e2]; simp, fun q h => ?_, f2, W2, hW2, len2, by rw [strm_cons, s1], s4, .step hop hle (by omega) L1 ?_⟩
        · rcases List.mem_append.mp h with h | h
          · rcases List.mem_cons.mp h with rfl | h
            · exact hle
            · have := l1 q h; omega
          · exact l2 q h
        · rw [br_weak hW, fin_eq_br hW1 ?_]
          · exact L2
          · rcases hW1 with ⟨_, _, h7⟩ | ⟨hne, _⟩
            · exact .inl h7
            · refine .inr ?_
              rcases W1.att with ⟨e, _⟩ | ⟨q, hq', _, rfl⟩
              · exact absurd (List.map_eq_nil_iff.mp e) hne
              · obtain ⟨x, hx, rfl⟩ := List.mem_map.mp hq'
                exact l1 x hx

/-- the whole: what law asks of a chain -/
theorem plain (tail : Str) (rest : List Str) (ht : ¬ IsOp tail) (c : List (Str × Opd)) (hc : c.length ≤ 63) (p : Int) (o : Opd) (hq : tail = "?" → 0 < p) (hops : ∀ q ∈ c, IsOp q.1) :
    ∃ (d c' : List (Str × Opd)) (t : Str) (w j : Int) (y : Str) (ts : List Str) (y' : Str) (ts' : List Str),
      c = d ++ c' ∧ (∀ q ∈ d, p ≤ rk q.1) ∧ (∀ q ∈ c'.head?, rk q.1 < p) ∧ Words (opdTexts o d) (d.map (·.1)) t w ∧ t.length ≤ 4000 ∧ fin p j t = (if p = 4 ∧ w = 4 then par t else t) ∧
      strm c (tail :: rest) = y :: ts ∧ strm c' (tail :: rest) = y' :: ts' ∧ Loops p o.text 100 y ts t j y' ts' := by
  obtain ⟨d, c', t, w, j, y, ts, y', ts', e, l, f, W, hW, len, s1, s2, L⟩ := plain_run tail rest ht c.length c (Nat.le_refl _) p o [] o.text 7 100 hq hops (by simp) (.one _) (.inl ⟨rfl, rfl, rfl⟩)
    (by intro q hq' _; have := rk_bounds (hops q (List.mem_of_head? hq')); omega) (by simp) (by have := text_len o; simp; omega) (by simpa using hc)
  rw [List.nil_append] at W hW len
  have hd : d.length ≤ 63 := by have := congrArg List.length e; rw [List.length_append] at this; omega
  refine ⟨d, c', t, w, j, y, ts, y', ts', e, l, f, W, by omega, ?_, s1, s2, L⟩
  unfold fin
  rcases hW with ⟨_, rfl, rfl⟩ | ⟨_, rfl⟩
  · rw [if_neg (by omega), if_neg (by omega)]
  · by_cases h : p = 4 ∧ j = 4
    · rw [if_pos h, if_pos (by omega)]
    · rw [if_neg h, if_neg (by omega)]
end Mine
end
section
open PySem PySem.W PyProof.Rows
set_option Elab.async false
set_option maxRecDepth 100000
set_option maxHeartbeats 4000000
namespace Mine

noncomputable abbrev PG : Program := PySem.Challenge.rw_dm0128_01.row.prog
noncomputable abbrev KF (w : World) : Frag := hd.heap_39 w.params
noncomputable abbrev LO : List Str := looseW hd.view_39 [Str.ofString "_binary_ops", Str.ofString "_c2py_ops", Str.ofString "_parse"]
structure Cx (w : World) (mean : ExcName → Option Value) (mg mb : Str → Option Value) (h : Heap) : Prop where
  X : (KF w).In h
  T : Top hd.view_39 LO mean mg mb h
def NoE : Value → Shared → Prop := fun _ _ => False
theorem noE_passes {M : Model} {A : Around} {env : Env} : PassesOwn M A env NoE := fun _ _ h => h.elim

/-- what a call of the def at f does -/
def Ctr (w : World) (mean : ExcName → Option Value) (mg mb : Str → Option Value) (f : Addr) (args : List Value) (deep : Nat) (news news' : List (Addr × Obj)) (Out : Value → List (Addr × Obj) → Prop) : Prop :=
  ∀ (dp un : Nat) (gd : Option (List Code)) (cn : Str) (cs : Scope) (a : Addr) (ccd : Value) (cl : List (Str × Addr)) (outer : List Env) (A₀ : Around) (base h₀ : Heap) (L : Addr) (m : Str → Option Value) (s : Shared) (Q E : Value → Shared → Prop),
    Below A₀ base outer h₀ → Cx w mean mg mb h₀ → cs.kind = .function → dp + deep < recursionLimit → un + 8 * deep < cLine → Fr h₀ L s.heap m → News h₀ L s.heap news →
    (∀ r tl h' tk', Out r tl → Fr h₀ L h' m → News h₀ L h' (tl ++ news') → Q r { s with heap := h', toks := tk' }) →
    wpAny (model PG w) (ktrTop dp un gd cn cs L a ccd cl outer) (call (.ref f) args) Q E s

theorem Ctr.use {w : World} {mean : ExcName → Option Value} {mg mb : Str → Option Value} {f : Addr} {args : List Value} {deep : Nat} {news news' : List (Addr × Obj)} {Out : Value → List (Addr × Obj) → Prop} (c : Ctr w mean mg mb f args deep news news' Out)
    {dp un : Nat} {gd : Option (List Code)} {cn : Str} {cs : Scope} {a : Addr} {ccd : Value} {cl : List (Str × Addr)} {outer : List Env} {A₀ : Around} {base h₀ : Heap} {L : Addr} {m : Str → Option Value} {s : Shared} {Q E : Value → Shared → Prop}
    (B : Below A₀ base outer h₀) (X : (KF w).In h₀) (T : Top hd.view_39 LO mean mg mb h₀) (hk : cs.kind = .function) (hd : dp + deep < recursionLimit) (hu : un + 8 * deep < cLine) (F : Fr h₀ L s.heap m) (N : News h₀ L s.heap news)
    (ret : ∀ r tl h' tk', Out r tl → Fr h₀ L h' m → News h₀ L h' (tl ++ news') → Q r { s with heap := h', toks := tk' }) :
    wpAny (model PG w) (ktrTop dp un gd cn cs L a ccd cl outer) (call (.ref f) args) Q E s := c _ _ _ _ _ _ _ _ _ _ _ _ _ _ _ _ _ B ⟨X, T⟩ hk hd hu F N ret

section
variable {M : Model} {A : Around} {E : Value → Shared → Prop} {s : Shared} {env : Env}
def Then (M : Model) (A : Around) (E : Value → Shared → Prop) (env : Env) (rest : List Stmt) (Q : Flow → Shared → Prop) : Flow → Shared → Prop :=
  fun f s' => match f with | .next => wpAny M A (execs rest env) Q E s' | f => Q f s'
theorem then_next {rest : List Stmt} {Q : Flow → Shared → Prop} (h : wpAny M A (execs rest env) Q E s) : Then M A E env rest Q .next s := h
theorem then_ret {rest : List Stmt} {Q : Flow → Shared → Prop} {v : Value} (h : Q (.ret v) s) : Then M A E env rest Q (.ret v) s := h
theorem then_brk {rest : List Stmt} {Q : Flow → Shared → Prop} (h : Q .brk s) : Then M A E env rest Q .brk s := h
theorem st_cons {st : Stmt} {rest : List Stmt} {Q : Flow → Shared → Prop} (h : wpAny M A (exec st env) (Then M A E env rest Q) E s) : wpAny M A (execs (st :: rest) env) Q E s := wpAny_execs_cons h
theorem st_nil {Q : Flow → Shared → Prop} (h : Q .next s) : wpAny M A (execs [] env) Q E s := wpAny_execs_nil h
theorem st_asg {x : Str} {pos' pos : Pos} {value : Expr} {rest : List Stmt} {Q : Flow → Shared → Prop}
    (h : wpAny M A (eval value env) (fun v s₁ => wpAny M A (storeName env x v) (fun _ s₂ => wpAny M A (execs rest env) Q E s₂) E s₁) E s)
    (hs : swapsWith value (some (.Name x pos')) pos.line env = pure false := by rfl) : wpAny M A (execs (.Assign [.Name x pos'] value pos :: rest) env) Q E s := wpAny_execs_cons (wpAny_Assign_Name h hs)
theorem st_ret {e : Expr} {pos : Pos} {rest : List Stmt} {Q : Flow → Shared → Prop} (h : wpAny M A (eval e env) (fun v s' => Q (.ret v) s') E s) : wpAny M A (execs (.Return (some e) pos :: rest) env) Q E s :=
  wpAny_execs_cons (wpAny_Return_some h)
theorem st_if {test : Expr} {body orelse rest : List Stmt} {pos : Pos} {Q : Flow → Shared → Prop}
    (h : wpAny M A (isTrue test env (eval test env)) (fun b s₂ => wpAny M A (execs (if b then body else orelse) env) (Then M A E env rest Q) E s₂) E s) : wpAny M A (execs (.If test body orelse pos :: rest) env) Q E s :=
  wpAny_execs_cons (wpAny_If (wpAny_mono h (fun b s₂ h₂ => by cases b <;> exact h₂) fun _ _ e => e))
theorem cint {i : Int} {k : Nat} {pos : Pos} {Q : Value → Shared → Prop} (h : ∀ t tk, Q (.int i t) { s with toks := tk }) : wpAny M A (eval (.Constant (.int i) k pos) env) Q E s := wpAny_Constant_int (h _ _)
theorem cstr {x : Str} {k : Nat} {pos : Pos} {Q : Value → Shared → Prop} (h : ∀ t tk, Q (.str x t) { s with toks := tk }) : wpAny M A (eval (.Constant (.str x) k pos) env) Q E s := Calls.Constant_str (h _ _)
theorem sp_more {e : Expr} {rest : List Expr} {pos : Pos} {Q : List Value → Shared → Prop} (hne : ∀ v p, e ≠ .Starred v p)
    (h : wpAny M A (eval e env) (fun v s₁ => wpAny M A (spliced (backTo pos (starEach rest env))) (fun vs s₂ => Q (v :: vs) s₂) E s₁) E s) : wpAny M A (spliced (backTo pos (starEach (e :: rest) env))) Q E s :=
  spliced_more h (by cases e <;> first | rfl | exact absurd rfl (hne _ _))
theorem sp_nil {pos : Pos} {Q : List Value → Shared → Prop} (h : Q [] s) : wpAny M A (spliced (backTo pos (starEach [] env))) Q E s := spliced_none h
theorem sp_str {x : Str} {k : Nat} {p pos : Pos} {rest : List Expr} {Q : List Value → Shared → Prop}
    (h : wpAny M A (spliced (backTo pos (starEach rest env))) (fun vs s₂ => Q (.str x s.toks :: vs) s₂) E { s with toks := s.toks + 1 }) : wpAny M A (spliced (backTo pos (starEach (.Constant (.str x) k p :: rest) env))) Q E s :=
  sp_more nofun (Calls.Constant_str h)
end

theorem item_at {prog : Program} {w : World} {A : Around} {E : Value → Shared → Prop} {s : Shared} {value slice : Expr} {l : Addr} {vs : List Value} {i : Int} {u : Tok} {v : Value} {Q : Value → Shared → Prop} (hl : s.heap.IsList l vs.toArray) (h0 : 0 ≤ i) (hfit : i < 2 ^ 63) (hx : vs[i.toNat]? = some v) (h : Q v s)
    (hs : subscripted slice false (.ref l) (.int i u) = operate [.ref l, .int i u] (getItem (.ref l) (.int i u)) := by with_unfolding_all rfl) :
    wpAny (model prog w) A (subscriptTail value slice (.ref l) (.int i u)) Q E s :=
  tail_any hl.typeIs slot_list_getitem.lookup (wpAny_getItem_list hl h0 hfit (by simpa using hx) h) hs
theorem truthyT {M : Model} {A : Around} {E : Value → Shared → Prop} {s : Shared} {b : Bool} {Q : Bool → Shared → Prop} (hb : b = true) (h : Q true s) : wpAny M A (truthy (.bool b)) Q E s := wpAny_truthy_bool (hb ▸ h)
theorem truthyF {M : Model} {A : Around} {E : Value → Shared → Prop} {s : Shared} {b : Bool} {Q : Bool → Shared → Prop} (hb : b = false) (h : Q false s) : wpAny M A (truthy (.bool b)) Q E s := wpAny_truthy_bool (hb ▸ h)
theorem ifT {b : Bool} {P R : Prop} (hb : b = true) (h : P) : if b = true then P else R := by subst hb; exact h
theorem ifF {b : Bool} {P R : Prop} (hb : b = false) (h : R) : if b = true then P else R := by subst hb; exact h
theorem in_strs {prog : Program} {w : World} {A : Around} {E : Value → Shared → Prop} {s : Shared} {l : Addr} {vs : List Value} {ys : List Str} {k : Str} {t : Tok} {Q : Value → Shared → Prop} {b : Bool} (hl : s.heap.IsList l vs.toArray) (hi : StrsAre vs ys) (hb : ys.any (· == k) = b)
    (h : Q (.bool b) s) : wpAny (model prog w) A (compareOp .In (.str k t) (.ref l)) Q E s := in_list_strs hl hi (hb ▸ h)
theorem news_sub {h₀ h : Heap} {L : Addr} {l l' : List (Addr × Obj)} (N : News h₀ L h l) (hs : ∀ p ∈ l', p ∈ l) : News h₀ L h l' := fun p hp => N p (hs p hp)
theorem news_tail {h₀ h : Heap} {L : Addr} {p : Addr × Obj} {l : List (Addr × Obj)} (N : News h₀ L h (p :: l)) : News h₀ L h l := fun q hq => N q (.tail _ hq)
theorem news_app {h₀ h : Heap} {L : Addr} {l l' : List (Addr × Obj)} (N : News h₀ L h (l ++ l')) : News h₀ L h l' := fun q hq => N q (List.mem_append_right _ hq)

section
variable {prog : Program} {w : World} {A : Around} {h₀ : Heap} {L : Addr} {m : Str → Option Value} {env : Env} {ct elt : Expr} {x : Str} {scope : Scope} {cl : List (Str × Addr)} {s : Shared} {S : List (Addr × Obj) → Prop} {P : Nat → Value → Prop} {Fin : List Value → List (Addr × Obj) → Prop} {n : Nat} {news : List (Addr × Obj)}
theorem comp_T (Inv : Nat → List Value → Prop)
    (turn : ∀ (i : Nat) (v : Value) (I C D : Addr) (oI oC : Obj) (m₂ : Str → Option Value) (h : Heap) (tk : Nat) (ys : List Value) (E' : Value → Shared → Prop), i < n → P i v → Inv i ys → LCg.NsObj oC m₂ → m₂ x = some v → Fr h₀ L h m → News h₀ L h ((I, oI) :: (C, oC) :: (D, LCg.lst ys) :: news) →
      wpAny (model prog w) A (isTrue ct (compEnvC scope cl C env) (eval ct (compEnvC scope cl C env))) (fun ok s' => if ok = true then
        wpAny (model prog w) A (eval elt (compEnvC scope cl C env)) (fun y s'' => ∃ h' tk', s'' = { s with heap := h', toks := tk' } ∧ Fr h₀ L h' m ∧ News h₀ L h' ((I, oI) :: (C, oC) :: (D, LCg.lst ys) :: news) ∧ Inv (i + 1) (ys ++ [y])) E' s'
        else ∃ h' tk', s' = { s with heap := h', toks := tk' } ∧ Fr h₀ L h' m ∧ News h₀ L h' ((I, oI) :: (C, oC) :: (D, LCg.lst ys) :: news) ∧ Inv (i + 1) ys) E' { s with heap := h, toks := tk })
    (fin : ∀ ys, Inv n ys → Fin ys news) (h0 : Inv 0 []) (hS : S news) : LCt.CompRestT prog w A h₀ L m env ct elt x scope cl s S P Fin n 0 [] news := by
  have key : ∀ (j i : Nat) (ys : List Value), i + j = n → Inv i ys → LCt.CompRestT prog w A h₀ L m env ct elt x scope cl s S P Fin j i ys news := by
    intro j
    induction j with
    | zero =>
      intro i ys hi hy
      have e : i = n := by omega
      subst e
      exact LCt.CompRestT.zero (fin ys hy)
    | succ j ih =>
      intro i ys hi hy
      refine LCt.CompRestT.succ ?_
      intro v I oI C oC D m₂ h tk E' hP hC hx F N off ne
      refine wpAny_mono (turn i v I C D oI oC m₂ h tk ys E' (by omega) hP hy hC hx F N) (fun ok s' h' => ?_) fun _ _ e => e
      cases ok with
      | true =>
        simp only [if_true] at h' ⊢
        refine wpAny_mono h' (fun y s'' q => ?_) fun _ _ e => e
        obtain ⟨h'', tk', rfl, F', N', hI⟩ := q
        exact LCg.CompEnd.intro (s₁ := { s with heap := h, toks := tk }) F' N' news (fun p hp => hp) off hS (ih _ _ (by omega) hI)
      | false =>
        simp only [Bool.false_eq_true, if_false] at h' ⊢
        obtain ⟨h'', tk', rfl, F', N', hI⟩ := h'
        exact LCg.CompEnd.intro (s₁ := { s with heap := h, toks := tk }) F' N' news (fun p hp => hp) off hS (ih _ _ (by omega) hI)
  exact key n 0 [] (by omega) h0
theorem comp_U (Inv : Nat → List Value → Prop)
    (turn : ∀ (i : Nat) (v : Value) (I C D : Addr) (oI oC : Obj) (m₂ : Str → Option Value) (h : Heap) (tk : Nat) (ys : List Value) (E' : Value → Shared → Prop), i < n → P i v → Inv i ys → LCg.NsObj oC m₂ → m₂ x = some v → Fr h₀ L h m → News h₀ L h ((I, oI) :: (C, oC) :: (D, LCg.lst ys) :: news) →
      wpAny (model prog w) A (eval elt (compEnvC scope cl C env)) (fun y s'' => ∃ h' tk', s'' = { s with heap := h', toks := tk' } ∧ Fr h₀ L h' m ∧ News h₀ L h' ((I, oI) :: (C, oC) :: (D, LCg.lst ys) :: news) ∧ Inv (i + 1) (ys ++ [y])) E' { s with heap := h, toks := tk })
    (fin : ∀ ys, Inv n ys → Fin ys news) (h0 : Inv 0 []) (hS : S news) : LCg.CompRest prog w A h₀ L m env elt x scope cl s S P Fin n 0 [] news := by
  have key : ∀ (j i : Nat) (ys : List Value), i + j = n → Inv i ys → LCg.CompRest prog w A h₀ L m env elt x scope cl s S P Fin j i ys news := by
    intro j
    induction j with
    | zero =>
      intro i ys hi hy
      have e : i = n := by omega
      subst e
      exact LCg.CompRest.zero (fin ys hy)
    | succ j ih =>
      intro i ys hi hy
      refine LCg.CompRest.succ ?_
      intro v I oI C oC D m₂ h tk E' hP hC hx F N off ne
      refine wpAny_mono (turn i v I C D oI oC m₂ h tk ys E' (by omega) hP hy hC hx F N) (fun y s' h' => ?_) fun _ _ e => e
      obtain ⟨h'', tk', rfl, F', N', hI⟩ := h'
      exact LCg.CompEnd.intro (s₁ := { s with heap := h, toks := tk }) F' N' news (fun p hp => hp) off hS (ih _ _ (by omega) hI)
  exact key n 0 [] (by omega) h0
end

/-! ## small rules -/
section
variable {M : Model} {A : Around} {E : Value → Shared → Prop} {s : Shared} {h₀ : Heap} {L a : Addr} {m : Str → Option Value} {cn : Str} {cs : Scope} {ccd : Value} {cl : List (Str × Addr)} {x : Str} {v : Value} {news : List (Addr × Obj)}
theorem stL {Q : Unit → Shared → Prop} (F : Fr h₀ L s.heap m) (N : News h₀ L s.heap news)
    (h : ∀ h' m' tk', m' x = some v → (∀ y, y ≠ x → m' y = m y) → Fr h₀ L h' m' → News h₀ L h' news → Q () { s with heap := h', toks := tk' })
    (hk : cs.kind = .function := by rfl) (hx : (envX cn cs L a ccd cl).kindOf x = some .local := by rfl) : wpAny M A (storeName (envX cn cs L a ccd cl) x v) Q E s :=
  storeX_L F N (fun h' F' N' => h h' _ _ (if_pos rfl) (fun _ hy => if_neg hy) F' N') hk hx
end

theorem pick_upto (vs : List Value) {y : Int} (h : 0 ≤ y) : slicePick vs.toArray none (some y) none = (vs.take y.toNat).toArray := by
  have e : sliceBounds none (some y) none vs.toArray.size = (((0 : Nat) : Int), ((min y.toNat vs.toArray.size : Nat) : Int), 1) := by
    simp only [sliceBounds, Option.getD_none, show (1 : Int) > 0 by decide, if_true, if_neg (show ¬ (y < 0) by omega)]
    congr 1
    congr 1
    omega
  rw [kmk_pick_nat _ e]
  show ((vs.drop 0).take (min y.toNat vs.toArray.size - 0)).toArray = _
  rw [List.drop_zero, Nat.sub_zero, List.size_toArray, kmk_take_min]
theorem pick_from (vs : List Value) {x : Int} (h : 0 ≤ x) : slicePick vs.toArray (some x) none none = (vs.drop x.toNat).toArray := by
  have e : sliceBounds (some x) none none vs.toArray.size = (((min x.toNat vs.toArray.size : Nat) : Int), ((vs.toArray.size : Nat) : Int), 1) := by
    simp only [sliceBounds, Option.getD_none, show (1 : Int) > 0 by decide, if_true, if_neg (show ¬ (x < 0) by omega)]
    congr 1
    omega
  rw [kmk_pick_nat _ e]
  show ((vs.drop (min x.toNat vs.toArray.size)).take (vs.toArray.size - min x.toNat vs.toArray.size)).toArray = _
  rw [List.size_toArray, kmk_drop_min, List.take_of_length_le (by rw [List.length_drop]; omega)]
theorem strs_take {vs : List Value} {ws : List Str} (h : StrsAre vs ws) : ∀ k, StrsAre (vs.take k) (ws.take k) := by
  induction h with
  | nil => intro k; rw [List.take_nil, List.take_nil]; exact .nil
  | cons y t _ ih => intro k; cases k with
    | zero => exact .nil
    | succ k => exact .cons y t (ih k)
theorem strs_drop {vs : List Value} {ws : List Str} (h : StrsAre vs ws) : ∀ k, StrsAre (vs.drop k) (ws.drop k) := by
  induction h with
  | nil => intro k; rw [List.drop_nil, List.drop_nil]; exact .nil
  | cons y t r ih => intro k; cases k with
    | zero => exact .cons y t r
    | succ k => exact ih k
theorem strs_app {vs us : List Value} {ws xs : List Str} (h : StrsAre vs ws) (h' : StrsAre us xs) : StrsAre (vs ++ us) (ws ++ xs) := by
  induction h with
  | nil => exact h'
  | cons y t _ ih => exact .cons y t ih
theorem strs_len {vs : List Value} {ws : List Str} (h : StrsAre vs ws) : vs.length = ws.length := by
  induction h with
  | nil => rfl
  | cons _ _ _ ih => simp [ih]
theorem strs_get {vs : List Value} {ws : List Str} (h : StrsAre vs ws) : ∀ {i : Nat} {x : Str}, ws[i]? = some x → ∃ t, vs[i]? = some (.str x t) := by
  induction h with
  | nil => intro i x e; simp at e
  | cons y t _ ih => intro i x e; cases i with
    | zero => simp at e; subst e; exact ⟨t, rfl⟩
    | succ i => exact ih (by simpa using e)
theorem strs_of_get {vs : List Value} {ws : List Str} (h : StrsAre vs ws) : ∀ {i : Nat} {v : Value}, vs[i]? = some v → ∃ x t, ws[i]? = some x ∧ v = .str x t := by
  induction h with
  | nil => intro i x e; simp at e
  | cons y t _ ih => intro i x e; cases i with
    | zero => simp at e; subst e; exact ⟨y, t, rfl, rfl⟩
    | succ i => exact ih (by simpa using e)

section
variable {prog : Program} {w : World} {A : Around} {E : Value → Shared → Prop} {s : Shared} {env : Env} {h₀ : Heap} {L : Addr} {m : Str → Option Value} {news : List (Addr × Obj)}
/-- `x[:e]` -/
theorem sl_upto {n : Str} {np p1 p2 : Pos} {e : Expr} {Q : Value → Shared → Prop}
    (h : wpAny (model prog w) A (eval (.Name n np) env) (fun o s₁ => wpAny (model prog w) A (eval e env) (fun u s₂ => ∃ l vs i t h₀ L m news, o = .ref l ∧ u = .int i t ∧ 0 ≤ i ∧ s₂.heap.IsList l (List.toArray vs) ∧ vs.length ≤ sizeLine ∧ Fr h₀ L s₂.heap m ∧ News h₀ L s₂.heap news ∧
      (∀ D h', Fr h₀ L h' m → News h₀ L h' ((D, W.listOf (vs.take i.toNat).toArray 0) :: news) → (∀ p ∈ news, p.1 < D) → Q (.ref D) { s₂ with heap := h' })) E s₁) E s) :
    wpAny (model prog w) A (eval (.Subscript (.Name n np) (.Slice none (some e) none p1) p2) env) Q E s := by
  refine Subscript_ (wpAny_mono h (fun o s₁ h₁ => ?_) fun _ _ e => e)
  refine wpAny_Slice (evalPart_none_step (evalPart_some_step (wpAny_mono h₁ (fun u s₂ h₂ => ?_) fun _ _ e => e)))
  obtain ⟨l, vs, i, t, h₀, L, m, news, rfl, rfl, h0, hl, hz, F, N, k⟩ := h₂
  refine evalPart_none_step (kmk_slice F N hl .none (.int i t) (fun D h' F' N' lt => k D h' F' (pick_upto vs h0 ▸ N') lt) (by with_unfolding_all rfl) (fun _ => rfl) (by rw [List.size_toArray]; exact hz))
/-- `x[e:]` -/
theorem sl_from {n : Str} {np p1 p2 : Pos} {e : Expr} {Q : Value → Shared → Prop}
    (h : wpAny (model prog w) A (eval (.Name n np) env) (fun o s₁ => wpAny (model prog w) A (eval e env) (fun u s₂ => ∃ l vs i t h₀ L m news, o = .ref l ∧ u = .int i t ∧ 0 ≤ i ∧ s₂.heap.IsList l (List.toArray vs) ∧ vs.length ≤ sizeLine ∧ Fr h₀ L s₂.heap m ∧ News h₀ L s₂.heap news ∧
      (∀ D h', Fr h₀ L h' m → News h₀ L h' ((D, W.listOf (vs.drop i.toNat).toArray 0) :: news) → (∀ p ∈ news, p.1 < D) → Q (.ref D) { s₂ with heap := h' })) E s₁) E s) :
    wpAny (model prog w) A (eval (.Subscript (.Name n np) (.Slice (some e) none none p1) p2) env) Q E s := by
  refine Subscript_ (wpAny_mono h (fun o s₁ h₁ => ?_) fun _ _ e => e)
  refine wpAny_Slice (evalPart_some_step (wpAny_mono h₁ (fun u s₂ h₂ => ?_) fun _ _ e => e))
  obtain ⟨l, vs, i, t, h₀, L, m, news, rfl, rfl, h0, hl, hz, F, N, k⟩ := h₂
  refine evalPart_none_step (evalPart_none_step (kmk_slice F N hl (.int i t) .none (fun D h' F' N' lt => k D h' F' (pick_from vs h0 ▸ N') lt) (by with_unfolding_all rfl) (fun _ => rfl) (by rw [List.size_toArray]; exact hz)))

theorem str_canLayAll0 : ∀ ns : List Str, (∀ u ∈ ns, PyData.strOk u = true) → PyData.canLayAll0 (ns.map PyData.str) = true
  | [], _ => rfl
  | x :: r, h => by simp [PyData.canLayAll0, PyData.canLay0, str_canLayAll0 r (fun u hu => h u (.tail _ hu)), h x (.head _)]
theorem str_depthAll : ∀ ns : List Str, PyData.depthAll (ns.map PyData.str) = 0
  | [] => rfl
  | _ :: r => by simp [PyData.depthAll, PyData.depth, str_depthAll r]
theorem str_shaped (ns : List Str) (h : ∀ u ∈ ns, PyData.strOk u = true) : SeqAt.shaped (.list (ns.map PyData.str)) = true := by
  simp [SeqAt.shaped, PyData.canLay0, PyData.depth, str_canLayAll0 ns h, str_depthAll]
theorem str_sameAll : ∀ ns ms : List Str, PySem.Spec.sameAll (ns.map PyData.str) (ms.map PyData.str) = decide (ns = ms)
  | [], [] => by simp [PySem.Spec.sameAll]
  | [], _ :: _ => by simp [PySem.Spec.sameAll]
  | _ :: _, [] => by simp [PySem.Spec.sameAll]
  | a :: r, b :: t => by
    simp only [List.map_cons, PySem.Spec.sameAll, PySem.Spec.same, str_sameAll r t]
    by_cases h : a = b <;> by_cases h' : r = t <;> simp [h, h']
theorem eq_strs {a b : Addr} {xs ys : List Value} {us vs : List Str} {Q : Value → Shared → Prop} {r : Bool} (ha : s.heap.IsList a xs.toArray) (hb : s.heap.IsList b ys.toArray) (hi : StrsAre xs us) (hj : StrsAre ys vs) (ok1 : ∀ u ∈ us, PyData.strOk u = true) (ok2 : ∀ u ∈ vs, PyData.strOk u = true) (hr : decide (us = vs) = r) (hu : A.units + 64 < cLine) (h : Q (.bool r) s) :
    wpAny (model prog w) A (compareOp .Eq (.ref a) (.ref b)) Q E s :=
  eq_dataH_same (reads_newData ha hi.carried) (reads_newData hb hj.carried) (str_shaped _ ok1) (str_shaped _ ok2) hu (SeqAt.noMix_of_shape (.list .str) rfl _ _ (list_map_has fun _ => rfl) (list_map_has fun _ => rfl)) (by
    simp only [PySem.Spec.same]; rw [str_sameAll, hr]; exact h)
end
section
variable {prog : Program} {w : World} {A : Around} {E : Value → Shared → Prop} {s : Shared}
theorem lenL {l : Addr} {vs : List Value} {n : Nat} {Q : Value → Shared → Prop} (hl : s.heap.IsList l vs.toArray) (hn : vs.length = n) (hz : n ≤ 1000000) (h : ∀ t tk, Q (.int (n : Int) t) { s with toks := tk }) : wpAny (model prog w) A (call (.builtin "len") [.ref l]) Q E s := by
  subst hn
  exact PyProof.Rows.len_list hl (by rw [List.size_toArray]; omega) (by rw [List.size_toArray]; exact h _ _)
theorem addI {a b : Int} {t u : Tok} {Q : Value → Shared → Prop} (h : ∀ t tk, Q (.int (a + b) t) { s with toks := tk }) : wpAny (model prog w) A (binaryOp .Add (.int a t) (.int b u)) Q E s := PyProof.Rows.add_int (h _ _)
theorem eqI {a b : Int} {t u : Tok} {r : Bool} {Q : Value → Shared → Prop} (hr : (a == b) = r) (h : Q (.bool r) s) : wpAny (model prog w) A (compareOp .Eq (.int a t) (.int b u)) Q E s := PyProof.Rows.eq_int (hr ▸ h)
theorem in_ints {l : Addr} {vs : List Value} {ns : List Int} {k : Int} {t : Tok} {r : Bool} {Q : Value → Shared → Prop} (hl : s.heap.IsList l vs.toArray) (hi : IntsAre vs ns) (hr : ns.any (· == k) = r) (h : Q (.bool r) s) : wpAny (model prog w) A (compareOp .In (.int k t) (.ref l)) Q E s := in_list_ints hl hi (hr ▸ h)
theorem range_small (n : Nat) (hn : n ≤ 1000000) : Builtin.Range.small 0 (n : Int) 1 = true := small_one (by omega) (by omega) (by omega) (by omega)
theorem range_size (n : Nat) : Builtin.Range.rangeSize 0 (n : Int) 1 = ((n : Nat) : Int) := by rw [rangeSize_one]; split <;> omega
end
theorem cw_ref {w : World} {A : Around} {E : Value → Shared → Prop} {s : Shared} {env : Env} {h₀ : Heap} {pos : Pos} {f : Addr} {e : Expr} {rest : List Expr} {Q : Value → Shared → Prop} (X : (KF w).In h₀) (hk : keepIn (KF w) (.ref f) = true)
    (h : wpAny (model PG w) A (spliced (backTo pos (starEach (e :: rest) env))) (fun vs s₁ => (∀ b o, h₀.get? b = some o → s₁.heap.get? b = some o) ∧ wpAny (model PG w) A (call (.ref f) vs) Q E s₁) E s)
    (he : starEach (e :: rest) env = (false, eval e env) :: starEach rest env := by rfl) (hplain : (backTo pos (starEach rest env)).any (·.1) = false := by rfl) :
    wpAny (model PG w) A (callWith pos (.ref f) [] (backTo pos (starEach (e :: rest) env)) []) Q E s :=
  callWith_K X hk (wpAny_mono h (fun _ _ h₁ => ⟨X.keeps h₁.1, h₁.2⟩) fun _ _ e => e) he hplain
end Mine
end
section
open PySem PySem.W PyProof.Rows
set_option Elab.async false
set_option maxRecDepth 100000
set_option maxHeartbeats 4000000


namespace Mine
def rowsL : List Str := ["", "||", "&&", "== !=", "< > <= >=", "+ -", "* / %"]
def rowHas (op : Str) (k : Nat) : Bool := (Txt.words (rowsL.getD k Str.empty)).any (· == op)
theorem rows_rank : ∀ op ∈ opsL, ((List.range 7).filter (rowHas op)).map (fun k => ((k : Nat) : Int)) = [rk op] := by decide +kernel
theorem rowsL_len : ∀ i, i < 7 → (rowsL.getD i Str.empty).length ≤ 9 := by decide +kernel
theorem ints_snoc {vs : List Value} {ns : List Int} {k : Int} {t : Tok} (h : IntsAre vs ns) : IntsAre (vs ++ [.int k t]) (ns ++ [k]) := by
  induction h with
  | nil => exact .cons _ _ .nil
  | cons _ _ _ ih => exact .cons _ _ ih
theorem rank_ok {w : World} {mean : ExcName → Option Value} {mg mb : Str → Option Value} {op : Str} (hop : IsOp op) {t0 : Tok} {news : List (Addr × Obj)} :
    Ctr w mean mg mb 90 [.str op t0] 2 news news (fun r tl => tl = [] ∧ ∃ t, r = .int (rk op) t) := by
  intro dp un gd cn cs a ccd cl outer A₀ base h₀ L m s Q E B C hk hd hu F N ret
  refine wpAny_noRaise ?_
  refine wpAny_call ?_
  refine code_defC (binds := [("op", .str op t0)]) B F C.X N C.T rfl rfl hk (f := 90) rfl (by rfl) (by show dp < recursionLimit; omega) (BindsTo.of_eq rfl) rfl (by decide +kernel) ?_ rfl rfl rfl
  intro g L' h₁ tk cells FG F N Y B X T lt
  obtain ⟨o2, o1, rfl, d2, d1⟩ := CellsAre.two Y
  clear Y
  replace d1 : o1.data = .cell (some (.str op t0)) := d1
  replace d2 : o2.data = .cell none := d2
  refine st_asg ?_
  refine List_ ?_
  refine sp_str ?_
  refine sp_str ?_
  refine sp_str ?_
  refine sp_str ?_
  refine sp_str ?_
  refine sp_str ?_
  refine sp_str ?_
  refine sp_nil ?_
  refine newList_K F N ?_ (by show 7 ≤ sizeLine; decide)
  intro lr h₂ F N lt2
  have l1 := ltN (lt2 (L' + 1 + 1, o2) (List.mem_append_left _ (.head _)))
  have l2 := ltN (lt2 (L' + 1, o1) (List.mem_append_left _ (.tail _ (.head _))))
  refine storeX_C F N (c := L' + 1 + 1) (o := o2) rfl (.tail (neN (by dsimp only at l1 ⊢; omega)) (.head ?_)) d2 ?_
  · intro p hp
    rcases List.mem_cons.mp hp with rfl | hp
    · exact neN (by dsimp only; omega)
    · have := ltN (lt p hp); exact neN (by omega)
  intro h₃ o2 F N d2
  refine st_ret ?_
  refine Subscript_ ?_
  refine LCt.ListComp_T F (by rfl) (by decide) rfl (by decide) rfl ?_
  refine Call_ ?_
  refine nameX_B F X (topRead_of T) (by rfl) (by boot_by_name) (by decide) ?_
  refine PyProof.Rows.callWith_type1 ?_
  refine sp_more nofun ?_
  refine wpAny_Constant_int ?_
  refine sp_nil ?_
  refine range1_rows F N ?_
  intro h₄ tk4 t1 u1 v1 hr F N up
  refine LCt.CompSrcT.range (n := 7) rfl F N hr (by decide) (by decide) (by decide) ?_
  intro g'
  refine comp_T (fun i ys => IntsAre ys (((List.range i).filter (rowHas op)).map (fun k => ((k : Nat) : Int)))) ?_ ?_ .nil trivial
  · intro i v I C D oI oC m₂ h tk ys E' hi hP hy hC hx F N
    obtain ⟨t, rfl⟩ := hP
    refine wpAny_isTrue_Compare1 ?_
    refine lcf_cell N (c := L' + 1) (o := o1) rfl (.tail _ (.tail _ (.tail _ (.tail _ (.tail _ (.head _)))))) d1 ?_ rfl rfl
    refine MethodCall_ ?_
    refine Subscript_ ?_
    refine lcf_cell N (c := L' + 1 + 1) (o := o2) rfl (.tail _ (.tail _ (.tail _ (.tail _ (.head _))))) d2 ?_ rfl rfl
    refine LCgL.ld_own N (.tail _ (.head _)) hC hx ?_
    refine KTb.item_list (ws := rowsL) (News.isList N (.tail _ (.tail _ (.tail _ (.head _))))) (.cons _ _ (.cons _ _ (.cons _ _ (.cons _ _ (.cons _ _ (.cons _ _ (.cons _ _ .nil))))))) (by omega) (by show (0 : Int) + (i : Int) < 7; omega) (by omega) ?_
    intro t' hlt
    refine GM.split ?_
    refine callWith_method0 ?_
    refine KSpl.split0 F N ?_ ?_
    · intro D2 l h' k e SA F N lt
      have hb : ((l.map (·.1)).any (· == op)) = rowHas op i := by
        rw [e, show ((0 : Int) + (i : Int)).toNat = i by omega]; rfl
      refine in_strs (News.isList N (.head _)) SA hb ?_
      have hr1 : List.range (i + 1) = List.range i ++ [i] := List.range_succ
      refine (Bool.eq_false_or_eq_true (rowHas op i)).elim (fun hb2 => ?_) (fun hb2 => ?_)
      ·
        refine truthyT hb2 ?_
        refine ite_tt ?_
        refine LCgL.ld_own N (.tail _ (.tail _ (.head _))) hC hx ?_
        refine ⟨_, _, rfl, F, news_tail N, ?_⟩
        rw [hr1, List.filter_append, List.filter_cons_of_pos hb2, List.filter_nil, List.map_append, List.map_cons, List.map_nil, Int.zero_add]
        exact ints_snoc hy
      ·
        refine truthyF hb2 ?_
        refine ite_ff ?_
        refine ⟨_, _, rfl, F, news_tail N, ?_⟩
        rw [hr1, List.filter_append, List.filter_cons_of_neg (by rw [hb2]; decide), List.filter_nil, List.append_nil]
        exact hy
    · have := rowsL_len i hi
      rw [show ((0 : Int) + (i : Int)).toNat = i by omega, sizeLine_eq]; omega
  · intro ys hy
    rw [rows_rank op hop] at hy
    cases hy with
    | cons _ t hy =>
    cases hy
    intro D h tk F N off
    refine wpAny_Constant_int ?_
    have hl := News.isList N (.head _)
    refine item_at hl (Int.le_refl 0) (by omega) (v := .int (rk op) t) rfl ?_
    refine leaveK_ F N ?_
    intro F N
    exact ret _ [] _ _ ⟨rfl, _, rfl⟩ F (news_sub N (fun p hp => .tail _ (.tail _ (.tail _ (.tail _ hp)))))
end Mine
end
section
open PySem PySem.W PyProof.Rows
set_option Elab.async false
set_option maxRecDepth 100000
set_option maxHeartbeats 4000000
namespace Mine
abbrev tupOf (vs : List Value) : Obj := { cls := .type "tuple", data := .seq vs.toArray }
noncomputable def fnData (P : Params) (f : Addr) : FuncData := match (hd.heap_39 P).lookup f with
  | some ⟨_, _, .func fd, _⟩ => fd
  | _ => default
noncomputable def fnBody (P : Params) (f : Addr) : List Stmt := match (fnData P f).body with
  | .stmts b => b
  | _ => []
def forBody : Stmt → List Stmt
  | .For _ _ b _ _ => b
  | _ => []
noncomputable def sideBody (P : Params) : List Stmt := forBody ((fnBody P 95).getD 4 (.Pass ⟨0, 0, 0, 0⟩))
theorem unr_next {h₀ : Heap} {L I : Addr} {it : Obj} {rest : (Str → Option Value) → List (Addr × Obj) → Prop} {s₁ s₂ : Shared} {Q : Flow → Shared → Prop} (h : UnrEnd h₀ L s₁ I it rest s₂) : UnrPost h₀ L s₁ I it rest Q .next s₂ := h
theorem news_ne {h₀ h : Heap} {L a b : Addr} {o o' : Obj} {news : List (Addr × Obj)} (N : News h₀ L h news) (h1 : (a, o) ∈ news) (h2 : (b, o') ∈ news) (hc : o.cls ≠ o'.cls) : a ≠ b := by
  intro e
  subst e
  have e1 := (N _ h1).1
  have e2 := (N _ h2).1
  have e3 : o = o' := Option.some.inj (e1.symm.trans e2)
  exact hc (by rw [e3])
theorem put_ne {m : Str → Option Value} {x y : Str} {v : Value} {z : Option Value} (h : y ≠ x) (hm : m y = z) : (fun y => if y = x then some v else m y) y = z := (if_neg h).trans hm
theorem put_eq {m : Str → Option Value} {x : Str} {v : Value} : (fun y => if y = x then some v else m y) x = some v := if_pos rfl
theorem fr_abs {P : Prop} {h₀ h : Heap} {L : Addr} {m : Str → Option Value} {x : Str} {v : Value} (F : Fr h₀ L h (fun y => if y = x then some v else m y)) (k : ∀ m', Fr h₀ L h m' → m' x = some v → (∀ y, y ≠ x → m' y = m y) → P) : P :=
  k _ F (if_pos rfl) fun _ hy => if_neg hy
theorem par_le {t : Str} : (par t).length = t.length + 2 := par_len t
theorem upd_head {D : Addr} {o o' : Obj} {rest : List (Addr × Obj)} (h : ∀ p ∈ rest, p.1 ≠ D) : Upd D o o' ((D, o) :: rest) ((D, o') :: rest) := .head h
section
variable {prog : Program} {w : World} {A : Around} {E : Value → Shared → Prop} {s : Shared}
theorem addS {x y : Str} {t u : Tok} {Q : Value → Shared → Prop} (hz : x.length + y.length ≤ 100000) (h : ∀ t' tk, Q (.str (x ++ y) t') { s with toks := tk }) : wpAny (model prog w) A (binaryOp .Add (.str x t) (.str y u)) Q E s :=
  PyProof.Rows.add_str h (by rw [sizeLine_eq]; omega)
theorem eqS {x y : Str} {t u : Tok} {r : Bool} {Q : Value → Shared → Prop} (hr : (x == y) = r) (h : Q (.bool r) s) : wpAny (model prog w) A (compareOp .Eq (.str x t) (.str y u)) Q E s := PyProof.Rows.eq_str (hr ▸ h)
theorem item_tup {value slice : Expr} {t : Addr} {l : List Value} {k : Nat} {u : Tok} {x : Value} {Q : Value → Shared → Prop} (ht : IsTup s.heap t l.toArray) (hk : k < 100) (hl : k < l.length) (hx : l[k]? = some x) (h : Q x s)
    (hs : subscripted slice false (.ref t) (.int (k : Int) u) = operate [.ref t, .int (k : Int) u] (getItem (.ref t) (.int (k : Int) u)) := by with_unfolding_all rfl) :
    wpAny (model prog w) A (subscriptTail value slice (.ref t) (.int (k : Int) u)) Q E s :=
  item_tupleT ht (by omega) (by omega) (seqIndex_of (by omega) (by omega)) (by rw [Int.toNat_natCast]; exact hx) h hs
end
theorem any34 {k : Int} : (List.any [3, 4] (· == k)) = true ↔ cmp k := by
  simp only [List.any_cons, List.any_nil, Bool.or_false, Bool.or_eq_true, beq_iff_eq]
  unfold cmp
  omega
theorem side_turn {w : World} {A : Around} {E : Value → Shared → Prop} {s : Shared} {g : Heap} {L' : Addr} {m : Str → Option Value} {cn : Str} {ccd : Value} {cl : List (Str × Addr)} {cw ad ls : Addr} {tt tv twk : Tok} {wk v : Int} {t : Str} {its : List Value} {n : Nat} {rest : List (Addr × Obj)} {Q : Flow → Shared → Prop} {ow : Obj}
    (F : Fr g L' s.heap m) (N : News g L' s.heap ((ls, W.listOf its.toArray n) :: rest)) (hside : m "side" = some (.ref ad)) (hsides : m "sides" = some (.ref ls)) (hcl : cl.lookup ("weakest" : Str) = some cw) (dw : ow.data = .cell (some (.int wk twk)))
    (hne : ∀ p ∈ rest, p.1 ≠ ls) (mw : (cw, ow) ∈ rest) (ma : (ad, tupOf [.str t tt, .int v tv]) ∈ rest) (hz : its.length ≤ 10) (ht : t.length ≤ 1000)
    (h : ∀ h' tk' tt', Fr g L' h' m → News g L' h' ((ls, W.listOf (its ++ [Value.str (br wk v t) tt']).toArray (n + 1)) :: rest) → Q .next { s with heap := h', toks := tk' }) :
    wpAny (model PG w) A (execs (sideBody w.params) (envX cn (fnData w.params 95).scope L' 95 ccd cl)) Q E s := by
  refine st_if ?_
  refine isTrue_and ?_
  refine wpAny_isTrue_Compare1 ?_
  refine nameX_C N hcl (.tail _ mw) dw ?_ rfl rfl
  refine List_ ?_
  refine sp_more nofun ?_
  refine cint ?_
  intro _ _
  refine sp_more nofun ?_
  refine cint ?_
  intro _ _
  refine sp_nil ?_
  refine newList_K F N ?_ (by show 2 ≤ sizeLine; decide)
  intro l1 h1 F N lt1
  refine in_ints (ns := [3, 4]) (News.isList N (.head _)) (.cons _ _ (.cons _ _ .nil)) rfl ?_
  have one : ∀ {s₁ : Shared} {Q₁ : Value → Shared → Prop} {rest₁ : List (Addr × Obj)} {value slice : Expr} {u : Tok}, News g L' s₁.heap rest₁ → (∀ p ∈ rest, p ∈ rest₁) → Q₁ (.int v tv) s₁ →
      (subscripted slice false (.ref ad) (.int (1 : Nat) u) = operate [.ref ad, .int (1 : Nat) u] (getItem (.ref ad) (.int (1 : Nat) u))) → wpAny (model PG w) A (subscriptTail value slice (.ref ad) (.int 1 u)) Q₁ E s₁ := by
    intro s₁ Q₁ rest₁ value slice u N₁ sub q hs
    exact item_tup (k := 1) (News.isTup N₁ (sub _ ma)) (by decide) (by simp) rfl q hs
  have zero : ∀ {s₁ : Shared} {Q₁ : Value → Shared → Prop} {rest₁ : List (Addr × Obj)} {value slice : Expr} {u : Tok}, News g L' s₁.heap rest₁ → (∀ p ∈ rest, p ∈ rest₁) → Q₁ (.str t tt) s₁ →
      (subscripted slice false (.ref ad) (.int (0 : Nat) u) = operate [.ref ad, .int (0 : Nat) u] (getItem (.ref ad) (.int (0 : Nat) u))) → wpAny (model PG w) A (subscriptTail value slice (.ref ad) (.int 0 u)) Q₁ E s₁ := by
    intro s₁ Q₁ rest₁ value slice u N₁ sub q hs
    exact item_tup (k := 0) (News.isTup N₁ (sub _ ma)) (by decide) (by simp) rfl q hs
  refine (Bool.eq_false_or_eq_true (List.any [3, 4] (· == wk))).elim (fun hb => ?_) (fun hb => ?_)
  · refine truthyT hb ?_
    refine ite_tt ?_
    refine isTrue_and ?_
    refine wpAny_isTrue_Compare1 ?_
    refine Subscript_ ?_
    refine nameX_L F hside ?_
    refine cint ?_
    intro _ _
    refine one N (fun p hp => .tail _ (.tail _ hp)) ?_ (by with_unfolding_all rfl)
    refine List_ ?_
    refine sp_more nofun ?_
    refine cint ?_
    intro _ _
    refine sp_more nofun ?_
    refine cint ?_
    intro _ _
    refine sp_nil ?_
    refine newList_K F N ?_ (by show 2 ≤ sizeLine; decide)
    intro l2 h2 F N lt2
    refine in_ints (ns := [3, 4]) (News.isList N (.head _)) (.cons _ _ (.cons _ _ .nil)) rfl ?_
    replace N := news_tail (news_tail N)
    have hb' : cmp wk := any34.mp hb
    refine (Bool.eq_false_or_eq_true (List.any [3, 4] (· == v))).elim (fun hv => ?_) (fun hv => ?_)
    · refine truthyT hv ?_
      refine ite_tt ?_
      refine isTrue_and_nil ?_
      have hv' : cmp v := any34.mp hv
      have ebr : br wk v t = par t := if_pos ⟨hb', hv'⟩
      refine st_cons ?_
      refine wpAny_Expr_any ?_
      refine MethodCall_ ?_
      refine nameX_L F hsides ?_
      refine getMethod_append_N N (.head _) ?_
      refine callWith_method1 ?_
      refine sp_more nofun ?_
      refine wpAny_BinOp ?_
      refine wpAny_BinOp ?_
      refine cstr ?_
      intro _ _
      refine Subscript_ ?_
      refine nameX_L F hside ?_
      refine cint ?_
      intro _ _
      refine zero N (fun p hp => .tail _ hp) ?_ (by with_unfolding_all rfl)
      refine addS ?_ ?_
      · rw [show (PySem.Str.ofString "(").length = 1 by decide +kernel]; omega
      intro _ _
      refine cstr ?_
      intro _ _
      refine addS ?_ ?_
      · rw [Str.length_append, show (PySem.Str.ofString "(").length = 1 by decide +kernel, show (PySem.Str.ofString ")").length = 1 by decide +kernel]; omega
      intro tt' _
      refine sp_nil ?_
      refine append_K F N (upd_head hne) ?_ (by rw [List.size_toArray, sizeLine_eq]; omega)
      intro h' F N
      refine then_next ?_
      refine st_nil ?_
      refine then_next ?_
      refine st_nil ?_
      refine h h' _ tt' F ?_
      rw [ebr, ← List.push_toArray]
      exact N
    · refine truthyF hv ?_
      refine ite_ff ?_
      have hv' : ¬ cmp v := fun q => Bool.noConfusion (hv.symm.trans (any34.mpr q))
      have ebr : br wk v t = t := if_neg fun q => hv' q.2
      refine st_cons ?_
      refine wpAny_Expr_any ?_
      refine MethodCall_ ?_
      refine nameX_L F hsides ?_
      refine getMethod_append_N N (.head _) ?_
      refine callWith_method1 ?_
      refine sp_more nofun ?_
      refine Subscript_ ?_
      refine nameX_L F hside ?_
      refine cint ?_
      intro _ _
      refine zero N (fun p hp => .tail _ hp) ?_ (by with_unfolding_all rfl)
      refine sp_nil ?_
      refine append_K F N (upd_head hne) ?_ (by rw [List.size_toArray, sizeLine_eq]; omega)
      intro h' F N
      refine then_next ?_
      refine st_nil ?_
      refine then_next ?_
      refine st_nil ?_
      refine h h' _ tt F ?_
      rw [ebr, ← List.push_toArray]
      exact N
  · refine truthyF hb ?_
    refine ite_ff ?_
    replace N := news_tail N
    have hb' : ¬ cmp wk := fun q => Bool.noConfusion (hb.symm.trans (any34.mpr q))
    have ebr : br wk v t = t := if_neg fun q => hb' q.1
    refine st_cons ?_
    refine wpAny_Expr_any ?_
    refine MethodCall_ ?_
    refine nameX_L F hsides ?_
    refine getMethod_append_N N (.head _) ?_
    refine callWith_method1 ?_
    refine sp_more nofun ?_
    refine Subscript_ ?_
    refine nameX_L F hside ?_
    refine cint ?_
    intro _ _
    refine zero N (fun p hp => .tail _ hp) ?_ (by with_unfolding_all rfl)
    refine sp_nil ?_
    refine append_K F N (upd_head hne) ?_ (by rw [List.size_toArray, sizeLine_eq]; omega)
    intro h' F N
    refine then_next ?_
    refine st_nil ?_
    refine then_next ?_
    refine st_nil ?_
    refine h h' _ tt F ?_
    rw [ebr, ← List.push_toArray]
    exact N
end Mine
end
section
open PySem PySem.W PyProof.Rows
set_option Elab.async false
set_option maxRecDepth 100000
set_option maxHeartbeats 4000000
namespace Mine
abbrev WOut (t : Str) (wk : Int) (r : Value) (tl : List (Addr × Obj)) : Prop := ∃ a tt tw, tl = [(a, tupOf [.str t tt, .int wk tw])] ∧ r = .ref a
theorem op_ok {x : Str} (h : IsOp x) : PyData.strOk x = true := by
  have : ∀ x ∈ opsL, PyData.strOk x = true := by decide +kernel
  exact this x h
theorem words_one {w : World} {mean : ExcName → Option Value} {mg mb : Str → Option Value} {o : Str} {lo lp : Addr} {vo vp : List Value} {no np : Nat} {news : List (Addr × Obj)}
    (mo : (lo, W.listOf vo.toArray no) ∈ news) (mp : (lp, W.listOf vp.toArray np) ∈ news) (so : StrsAre vo [o]) (sp : StrsAre vp []) :
    Ctr w mean mg mb 95 [.ref lo, .ref lp] 20 news news (WOut o 7) := by
  intro dp un gd cn cs a ccd cl outer A₀ base h₀ L m s Q E B C hk hd hu F N ret
  refine wpAny_noRaise ?_
  refine wpAny_call ?_
  refine code_defC (binds := [("operands", .ref lo), ("ops", .ref lp)]) B F C.X N C.T rfl rfl hk (f := 95) rfl (by rfl) (by show dp < recursionLimit; omega) (BindsTo.of_eq rfl) rfl (by decide +kernel) ?_ rfl rfl rfl
  intro g L' h₁ tk cells FG F N Y B X T lt
  obtain ⟨o2, o1, rfl, d2, d1⟩ := CellsAre.two Y
  clear Y
  replace d1 : o1.data = .cell (some (.ref lp)) := d1
  replace d2 : o2.data = .cell none := d2
  refine st_if ?_
  refine wpAny_isTrue_Compare1 ?_
  refine nameX_C N (c := L' + 1) (o := o1) rfl (.tail _ (.head _)) d1 ?_ rfl rfl
  refine List_ ?_
  refine sp_nil ?_
  refine newList_K F N ?_ (by show 0 ≤ sizeLine; decide)
  intro l0 h₂ F N lt2
  refine eq_strs (News.isList N (.tail _ (.tail _ (.tail _ mp)))) (News.isList N (.head _)) sp .nil nofun nofun (r := true) (by decide) ?_ ?_
  · show un + 3 + 64 < cLine
    omega
  refine truthyT rfl ?_
  refine st_ret ?_
  refine Tuple_ ?_
  refine sp_more nofun ?_
  refine Subscript_ ?_
  refine nameX_L F rfl ?_
  refine wpAny_Constant_int ?_
  obtain ⟨t1, e1⟩ := strs_get so (i := 0) (x := o) rfl
  refine item_at (News.isList N (.tail _ (.tail _ (.tail _ mo)))) (Int.le_refl 0) (by omega) e1 ?_
  refine sp_more nofun ?_
  refine cint ?_
  intro t7 tk7
  refine sp_nil ?_
  refine kup_newTuple F N ?_ (by show 2 ≤ sizeLine; decide)
  intro D h₃ F N lt3
  refine then_ret ?_
  refine leaveK_ F N ?_
  intro F N
  refine ret _ [(D, tupOf [.str o t1, .int 7 t7])] _ _ ⟨D, t1, t7, rfl, rfl⟩ F (news_sub N ?_)
  intro p hp
  rcases List.mem_cons.mp hp with rfl | hp
  · exact .head _
  · exact .tail _ (.tail _ (.tail _ (.tail _ hp)))

theorem min_is {ps1 ps2 : List Str} {op : Str} (h1 : ∀ q ∈ ps1, IsOp q ∧ rk op ≤ rk q) (h2 : ∀ q ∈ ps2, IsOp q ∧ rk op < rk q) {M : Int} (hM : M ∈ (ps1 ++ op :: ps2).map rk) (hmin : ∀ a, a ∈ (ps1 ++ op :: ps2).map rk → M ≤ a) : M = rk op := by
  have a := hmin (rk op) (List.mem_map_of_mem (List.mem_append_right _ (.head _)))
  obtain ⟨q, hq, rfl⟩ := List.mem_map.mp hM
  have b : rk op ≤ rk q := by
    rcases List.mem_append.mp hq with hq | hq
    · exact (h1 q hq).2
    · rcases List.mem_cons.mp hq with rfl | hq
      · exact Int.le_refl _
      · exact Int.le_of_lt (h2 q hq).2
  omega
def isW (ps : List Str) (k0 : Int) (k : Nat) : Bool := rk (ps.getD k Str.empty) == k0
theorem max_is {ps1 ps2 : List Str} {op : Str} (h2 : ∀ q ∈ ps2, IsOp q ∧ rk op < rk q) {M : Int} (hM : M ∈ ((List.range (ps1 ++ op :: ps2).length).filter (isW (ps1 ++ op :: ps2) (rk op))).map (fun k => ((k : Nat) : Int)))
    (hmax : ∀ a, a ∈ ((List.range (ps1 ++ op :: ps2).length).filter (isW (ps1 ++ op :: ps2) (rk op))).map (fun k => ((k : Nat) : Int)) → a ≤ M) : M = ps1.length := by
  have a := hmax (ps1.length : Int) (List.mem_map.mpr ⟨ps1.length, List.mem_filter.mpr ⟨by simp, by simp [isW]⟩, rfl⟩)
  obtain ⟨k, hk, rfl⟩ := List.mem_map.mp hM
  obtain ⟨hk1, hk2⟩ := List.mem_filter.mp hk
  have hlt : k < (ps1 ++ op :: ps2).length := List.mem_range.mp hk1
  rcases Nat.lt_or_ge ps1.length k with hgt | hle
  · exfalso
    have hm : (ps1 ++ op :: ps2).getD k Str.empty ∈ ps2 := by
      obtain ⟨j, rfl⟩ : ∃ j, k = ps1.length + 1 + j := ⟨k - ps1.length - 1, by omega⟩
      simp only [List.length_append, List.length_cons] at hlt
      rw [List.getD_eq_getElem?_getD, List.getElem?_append_right (by omega), show ps1.length + 1 + j - ps1.length = j + 1 by omega, List.getElem?_cons_succ, List.getElem?_eq_getElem (by omega)]
      exact List.getElem_mem _
    have := (h2 _ hm).2
    simp only [isW, beq_iff_eq] at hk2
    omega
  · omega
theorem words_cut {w : World} {mean : ExcName → Option Value} {mg mb : Str → Option Value} {os1 os2 ps1 ps2 : List Str} {op t1 t2 : Str} {w1 w2 : Int} (hop : IsOp op) (h1 : ∀ q ∈ ps1, IsOp q ∧ rk op ≤ rk q) (h2 : ∀ q ∈ ps2, IsOp q ∧ rk op < rk q)
    (el1 : os1.length = ps1.length + 1) (el2 : os2.length = ps2.length + 1) (hlen : ps1.length + ps2.length + 1 ≤ 63) (ht1 : t1.length ≤ 1000) (ht2 : t2.length ≤ 1000)
    (ih1 : ∀ {lo lp : Addr} {vo vp : List Value} {no np : Nat} {news : List (Addr × Obj)}, (lo, W.listOf vo.toArray no) ∈ news → (lp, W.listOf vp.toArray np) ∈ news → StrsAre vo os1 → StrsAre vp ps1 → Ctr w mean mg mb 95 [.ref lo, .ref lp] (ps1.length + 20) news news (WOut t1 w1))
    (ih2 : ∀ {lo lp : Addr} {vo vp : List Value} {no np : Nat} {news : List (Addr × Obj)}, (lo, W.listOf vo.toArray no) ∈ news → (lp, W.listOf vp.toArray np) ∈ news → StrsAre vo os2 → StrsAre vp ps2 → Ctr w mean mg mb 95 [.ref lo, .ref lp] (ps2.length + 20) news news (WOut t2 w2))
    {lo lp : Addr} {vo vp : List Value} {no np : Nat} {news : List (Addr × Obj)}
    (mo : (lo, W.listOf vo.toArray no) ∈ news) (mp : (lp, W.listOf vp.toArray np) ∈ news) (so : StrsAre vo (os1 ++ os2)) (sp : StrsAre vp (ps1 ++ op :: ps2)) :
    Ctr w mean mg mb 95 [.ref lo, .ref lp] (ps1.length + ps2.length + 1 + 20) news news (WOut (glue (br (rk op) w1 t1) op (br (rk op) w2 t2)) (rk op)) := by
  intro dp un gd cn cs a ccd cl outer A₀ base h₀ L m s Q E B C hk hd hu F N ret
  have allop : ∀ q ∈ ps1 ++ op :: ps2, IsOp q := by
    intro q hq
    rcases List.mem_append.mp hq with hq | hq
    · exact (h1 q hq).1
    · rcases List.mem_cons.mp hq with rfl | hq
      · exact hop
      · exact (h2 q hq).1
  have hvp := strs_len sp
  have hvo := strs_len so
  obtain ⟨top, eop⟩ := strs_get sp (i := ps1.length) (x := op) (by simp)
  refine wpAny_noRaise ?_
  refine wpAny_call ?_
  refine code_defC (binds := [("operands", .ref lo), ("ops", .ref lp)]) B F C.X N C.T rfl rfl hk (f := 95) rfl (by rfl) (by show dp < recursionLimit; omega) (BindsTo.of_eq rfl) rfl (by decide +kernel) ?_ rfl rfl rfl
  intro g L' h₁ tk cells FG F N Y B X T lt
  obtain ⟨o2, o1, rfl, d2, d1⟩ := CellsAre.two Y
  clear Y
  replace d1 : o1.data = .cell (some (.ref lp)) := d1
  replace d2 : o2.data = .cell none := d2
  refine wpAny_noRaise ?_
  refine st_if ?_
  refine wpAny_isTrue_Compare1 ?_
  refine nameX_C N (c := L' + 1) (o := o1) rfl (.tail _ (.head _)) d1 ?_ rfl rfl
  refine List_ ?_
  refine sp_nil ?_
  refine newList_K F N ?_ (by show 0 ≤ sizeLine; decide)
  intro l0 h₂ F N lt2
  refine eq_strs (News.isList N (.tail _ (.tail _ (.tail _ mp)))) (News.isList N (.head _)) sp .nil (fun u hu => op_ok (allop u hu)) nofun (r := false) (by simp) ?_ ?_
  · show un + 3 + 64 < cLine
    omega
  replace N := news_tail N
  refine truthyF rfl ?_
  refine st_nil ?_
  refine then_next ?_
  -- weakest = min([_law_rank(op) for op in ops])
  refine st_asg ?_
  refine Call_ ?_
  refine nameX_B F X (topRead_of T) (by rfl) (by boot_by_name) (by decide) ?_
  refine PyProof.Rows.callWith_builtin1 ?_
  refine sp_more nofun ?_
  refine LCg.ListComp_U F (by rfl) (by decide) rfl (by decide) rfl ?_
  refine nameX_C N (c := L' + 1) (o := o1) rfl (.tail _ (.head _)) d1 ?_ rfl rfl
  refine LCg.CompSrc.ledger rfl F N (.tail _ (.tail _ mp)) ?_ ?_
  · rw [List.size_toArray, hvp, sizeLine_eq]; simp; omega
  intro g'
  refine comp_U (fun i ys => IntsAre ys (((ps1 ++ op :: ps2).take i).map rk)) ?_ ?_ .nil (.inr ⟨_, .tail _ (.tail _ mp), rfl, _, rfl⟩)
  · intro i v I C D oI oC m₂ h tk ys E' hi hP hy hC hx F N
    obtain ⟨x, t, ex, rfl⟩ := strs_of_get sp (i := i) (by simpa using hP)
    refine Call_ ?_
    refine LCgL.ld_global F X T (by rfl) ?_
    refine cw_ref X (by rfl) ?_
    refine sp_more nofun ?_
    refine LCgL.ld_own N (.tail _ (.head _)) hC hx ?_
    refine sp_nil ?_
    refine ⟨F.keep, ?_⟩
    refine Ctr.use (rank_ok (allop x (List.mem_of_getElem? ex))) B X T rfl ?_ ?_ F N ?_
    · show dp + 1 + 2 < recursionLimit
      omega
    · show un + 3 + 8 * 2 < cLine
      omega
    intro r tl h' tk' ho F N
    obtain ⟨rfl, t', rfl⟩ := ho
    refine ⟨_, _, rfl, F, N, ?_⟩
    rw [List.take_add_one, ex, List.map_append]
    exact ints_snoc hy
  intro ys hy
  rw [List.size_toArray, hvp, List.take_length] at hy
  intro D h tk F N off
  refine sp_nil ?_
  refine kso_min F N (News.isList N (.head _)) hy (by simp; omega) rfl ?_
  intro h' M tMw tk F N hM hmin
  obtain rfl := min_is h1 h2 hM hmin
  replace N := news_tail N
  refine storeX_C F N (c := L' + 1 + 1) (o := o2) rfl (.head ?_) d2 ?_
  · intro p hp
    rcases List.mem_cons.mp hp with rfl | hp
    · exact neN (by dsimp only; omega)
    · have := ltN (lt p hp); exact neN (by omega)
  clear hM hmin hy off
  intro h₃ o2 F N d2
  -- cut = max([k for k in range(len(ops)) if _law_rank(ops[k]) == weakest])
  refine st_asg ?_
  refine Call_ ?_
  refine nameX_B F X (topRead_of T) (by rfl) (by boot_by_name) (by decide) ?_
  refine PyProof.Rows.callWith_builtin1 ?_
  refine sp_more nofun ?_
  refine LCt.ListComp_T F (by rfl) (by decide) rfl (by decide) rfl ?_
  refine Call_ ?_
  refine nameX_B F X (topRead_of T) (by rfl) (by boot_by_name) (by decide) ?_
  refine PyProof.Rows.callWith_type1 ?_
  refine sp_more nofun ?_
  refine Call_ ?_
  refine nameX_B F X (topRead_of T) (by rfl) (by boot_by_name) (by decide) ?_
  refine PyProof.Rows.callWith_builtin1 ?_
  refine sp_more nofun ?_
  refine nameX_C N (c := L' + 1) (o := o1) rfl (.tail _ (.head _)) d1 ?_ rfl rfl
  refine sp_nil ?_
  refine lenL (News.isList N (.tail _ (.tail _ mp))) hvp (by simp; omega) ?_
  intro tl1 tk
  refine sp_nil ?_
  refine range1_rows F N ?_
  intro h₄ tk4 tr1 ur1 vr1 hr F N up
  refine LCt.CompSrcT.range (n := (ps1 ++ op :: ps2).length) rfl F N hr (range_small _ (by simp; omega)) (range_size _) (by rw [sizeLine_eq]; simp; omega) ?_
  intro g'
  refine comp_T (fun i ys => IntsAre ys (((List.range i).filter (isW (ps1 ++ op :: ps2) (rk op))).map (fun k => ((k : Nat) : Int)))) ?_ ?_ .nil trivial
  · intro i v I C D oI oC m₂ h tk ys E' hi hP hy hC hx F N
    obtain ⟨t, rfl⟩ := hP
    have ex : (ps1 ++ op :: ps2)[i]? = some ((ps1 ++ op :: ps2).getD i Str.empty) := by rw [List.getD_eq_getElem?_getD, List.getElem?_eq_getElem hi]; rfl
    have hxo := allop _ (List.mem_of_getElem? ex)
    obtain ⟨tx, ev⟩ := strs_get sp ex
    refine wpAny_isTrue_Compare1 ?_
    refine Call_ ?_
    refine LCgL.ld_global F X T (by rfl) ?_
    refine cw_ref X (by rfl) ?_
    refine sp_more nofun ?_
    refine Subscript_ ?_
    refine lcf_cell N (c := L' + 1) (o := o1) rfl (.tail _ (.tail _ (.tail _ (.tail _ (.head _))))) d1 ?_ rfl rfl
    refine LCgL.ld_own N (.tail _ (.head _)) hC hx ?_
    refine item_at (News.isList N (.tail _ (.tail _ (.tail _ (.tail _ (.tail _ mp)))))) (by omega) (by simp at hi; omega) (v := .str ((ps1 ++ op :: ps2).getD i Str.empty) tx) (by rw [show ((0 : Int) + (i : Int)).toNat = i by omega]; exact ev) ?_
    refine sp_nil ?_
    refine ⟨F.keep, ?_⟩
    refine Ctr.use (rank_ok hxo) B X T rfl ?_ ?_ F N ?_
    · show dp + 1 + 2 < recursionLimit
      omega
    · show un + 3 + 8 * 2 < cLine
      omega
    intro r tl h' tk' ho F N
    obtain ⟨rfl, t', rfl⟩ := ho
    refine lcf_cell N (c := L' + 1 + 1) (o := o2) rfl (.tail _ (.tail _ (.tail _ (.head _)))) d2 ?_ rfl rfl
    refine eqI (r := isW (ps1 ++ op :: ps2) (rk op) i) rfl ?_
    have hr1 : List.range (i + 1) = List.range i ++ [i] := List.range_succ
    refine (Bool.eq_false_or_eq_true (isW (ps1 ++ op :: ps2) (rk op) i)).elim (fun hb2 => ?_) (fun hb2 => ?_)
    · refine truthyT hb2 ?_
      refine ite_tt ?_
      refine LCgL.ld_own N (.tail _ (.head _)) hC hx ?_
      refine ⟨_, _, rfl, F, N, ?_⟩
      rw [hr1, List.filter_append, List.filter_cons_of_pos hb2, List.filter_nil, List.map_append, List.map_cons, List.map_nil, Int.zero_add]
      exact ints_snoc hy
    · refine truthyF hb2 ?_
      refine ite_ff ?_
      refine ⟨_, _, rfl, F, N, ?_⟩
      rw [hr1, List.filter_append, List.filter_cons_of_neg (by rw [hb2]; decide), List.filter_nil, List.append_nil]
      exact hy
  intro ys hy
  intro D h tk F N off
  refine sp_nil ?_
  refine kso_max F N (News.isList N (.head _)) hy ?_ rfl ?_
  · refine List.length_pos_of_mem (a := (ps1.length : Int)) (List.mem_map.mpr ⟨ps1.length, List.mem_filter.mpr ⟨by simp, by simp [isW]⟩, rfl⟩)
  intro h' M tM tk F N hM hmin
  obtain rfl := max_is h2 hM hmin
  replace N := news_tail N
  clear hM hmin hy off hr up
  refine stL F N ?_
  intro h₅ m₅ tk5 hcut keep5 F N
  have hopd : m₅ "operands" = some (.ref lo) := (keep5 _ (by decide +kernel)).trans rfl
  -- sides = []
  refine st_asg ?_
  refine List_ ?_
  refine sp_nil ?_
  refine newList_K F N ?_ (by show 0 ≤ sizeLine; decide)
  intro ls h₆ F N lts
  refine stL F N ?_
  intro h₇ m₇ tk7 hsides keep7 F N
  replace hopd := (keep7 _ (by decide +kernel)).trans hopd
  replace hcut := (keep7 _ (by decide +kernel)).trans hcut
  clear keep7 keep5
  -- for side in [.., ..]
  refine st_cons ?_
  refine For_invVF F rfl rfl ?_
  refine List_ ?_
  refine sp_more nofun ?_
  refine Call_ ?_
  refine nameX_K F X (topRead_of T) (by rfl) ?_
  refine cw_ref X (by rfl) ?_
  refine sp_more nofun ?_
  refine sl_upto ?_
  refine nameX_L F hopd ?_
  refine wpAny_BinOp ?_
  refine nameX_L F hcut ?_
  refine cint ?_
  intro _ _
  refine addI ?_
  intro _ _
  refine ⟨lo, vo, _, _, _, _, _, _, rfl, rfl, by omega, News.isList N (.tail _ (.tail _ (.tail _ mo))), ?_, F, N, ?_⟩
  · rw [hvo, sizeLine_eq, List.length_append]; omega
  intro D1 h F N ltD1
  refine sp_more nofun ?_
  refine sl_upto ?_
  refine nameX_C N (c := L' + 1) (o := o1) rfl (.tail _ (.tail _ (.tail _ (.head _)))) d1 ?_ rfl rfl
  refine nameX_L F hcut ?_
  refine ⟨lp, vp, _, _, _, _, _, _, rfl, rfl, by omega, News.isList N (.tail _ (.tail _ (.tail _ (.tail _ mp)))), ?_, F, N, ?_⟩
  · rw [hvp, sizeLine_eq]; simp; omega
  intro D2 h F N ltD2
  refine sp_nil ?_
  refine ⟨F.keep, ?_⟩
  have ek1 : ((ps1.length : Int) + 1).toNat = os1.length := by omega
  have ek2 : ((ps1.length : Int)).toNat = ps1.length := by omega
  have sq1 : StrsAre (vo.take ((ps1.length : Int) + 1).toNat) os1 := by
    have e := strs_take so os1.length
    rw [List.take_left] at e
    rw [ek1]; exact e
  have sr1 : StrsAre (vp.take ((ps1.length : Int)).toNat) ps1 := by
    have e := strs_take sp ps1.length
    rw [List.take_left] at e
    rw [ek2]; exact e
  have sq2 : StrsAre (vo.drop ((ps1.length : Int) + 1).toNat) os2 := by
    have e := strs_drop so os1.length
    rw [List.drop_left] at e
    rw [ek1]; exact e
  have sr2 : StrsAre (vp.drop ((ps1.length : Int) + 1).toNat) ps2 := by
    have e := strs_drop sp (ps1.length + 1)
    have e2 : (ps1 ++ op :: ps2).drop (ps1.length + 1) = ps2 := by rw [← List.drop_drop, List.drop_left]; rfl
    rw [e2] at e
    rw [ek1, el1]; exact e
  refine Ctr.use (ih1 (.tail _ (.head _)) (.head _) sq1 sr1) B X T rfl ?_ ?_ F N ?_
  · show dp + 1 + (ps1.length + 20) < recursionLimit
    omega
  · show un + 3 + 8 * (ps1.length + 20) < cLine
    omega
  intro r tl h tk ho F N
  obtain ⟨a1, tt1, tw1, rfl, rfl⟩ := ho
  replace N : News g L' h ((a1, tupOf [.str t1 tt1, .int w1 tw1]) :: (ls, W.listOf #[] 0) :: (L' + 1 + 1, o2) :: (L' + 1, o1) :: news) := news_sub N (by
    intro p hp
    rcases List.mem_cons.mp hp with rfl | hp
    · exact .head _
    · exact .tail _ (.tail _ (.tail _ hp)))
  refine sp_more nofun ?_
  refine Call_ ?_
  refine nameX_K F X (topRead_of T) (by rfl) ?_
  refine cw_ref X (by rfl) ?_
  refine sp_more nofun ?_
  refine sl_from ?_
  refine nameX_L F hopd ?_
  refine wpAny_BinOp ?_
  refine nameX_L F hcut ?_
  refine cint ?_
  intro _ _
  refine addI ?_
  intro _ _
  refine ⟨lo, vo, _, _, _, _, _, _, rfl, rfl, by omega, News.isList N (.tail _ (.tail _ (.tail _ (.tail _ mo)))), ?_, F, N, ?_⟩
  · rw [hvo, sizeLine_eq, List.length_append]; omega
  intro D3 h F N ltD3
  refine sp_more nofun ?_
  refine sl_from ?_
  refine nameX_C N (c := L' + 1) (o := o1) rfl (.tail _ (.tail _ (.tail _ (.tail _ (.head _))))) d1 ?_ rfl rfl
  refine wpAny_BinOp ?_
  refine nameX_L F hcut ?_
  refine cint ?_
  intro _ _
  refine addI ?_
  intro _ _
  refine ⟨lp, vp, _, _, _, _, _, _, rfl, rfl, by omega, News.isList N (.tail _ (.tail _ (.tail _ (.tail _ (.tail _ mp))))), ?_, F, N, ?_⟩
  · rw [hvp, sizeLine_eq]; simp; omega
  intro D4 h F N ltD4
  refine sp_nil ?_
  refine ⟨F.keep, ?_⟩
  refine Ctr.use (ih2 (.tail _ (.head _)) (.head _) sq2 sr2) B X T rfl ?_ ?_ F N ?_
  · show dp + 1 + (ps2.length + 20) < recursionLimit
    omega
  · show un + 3 + 8 * (ps2.length + 20) < cLine
    omega
  intro r tl h tk ho F N
  obtain ⟨a2, tt2, tw2, rfl, rfl⟩ := ho
  replace N : News g L' h ((a2, tupOf [.str t2 tt2, .int w2 tw2]) :: (a1, tupOf [.str t1 tt1, .int w1 tw1]) :: (ls, W.listOf #[] 0) :: (L' + 1 + 1, o2) :: (L' + 1, o1) :: news) := news_sub N (by
    intro p hp
    rcases List.mem_cons.mp hp with rfl | hp
    · exact .head _
    · exact .tail _ (.tail _ (.tail _ hp)))
  refine sp_nil ?_
  refine newList_K F N ?_ (by show 2 ≤ sizeLine; decide)
  intro lst h F N ltl
  refine iter_listUnr (vs := [.ref a1, .ref a2]) rfl F N (.head _) rfl rfl ?_
  intro I ltI
  refine ListRest.succ ?_
  intro it h tk hit F N
  refine fr_abs F ?_
  intro mA F hsA kA
  have lsl : ls < lst := ltl (ls, W.listOf #[] 0) (.tail _ (.tail _ (.head _)))
  have lsI : ls < I := ltI (ls, W.listOf #[] 0) (.tail _ (.tail _ (.tail _ (.head _))))
  have na1 : a1 ≠ ls := news_ne N (o := tupOf [.str t1 tt1, .int w1 tw1]) (o' := W.listOf #[] 0) (.tail _ (.tail _ (.tail _ (.head _)))) (.tail _ (.tail _ (.tail _ (.tail _ (.head _))))) (by show Value.type "tuple" ≠ Value.type "list"; decide)
  have na2 : a2 ≠ ls := news_ne N (o := tupOf [.str t2 tt2, .int w2 tw2]) (o' := W.listOf #[] 0) (.tail _ (.tail _ (.head _))) (.tail _ (.tail _ (.tail _ (.tail _ (.head _))))) (by show Value.type "tuple" ≠ Value.type "list"; decide)
  have hnews : ∀ p ∈ (L' + 1 + 1, o2) :: (L' + 1, o1) :: news, p.1 ≠ ls := fun p hp => Nat.ne_of_lt (lts p hp)
  have hne : ∀ (itx : Obj), ∀ p ∈ (I, itx) :: (lst, W.listOf #[.ref a1, .ref a2] 0) :: (a2, tupOf [.str t2 tt2, .int w2 tw2]) :: (a1, tupOf [.str t1 tt1, .int w1 tw1]) :: (L' + 1 + 1, o2) :: (L' + 1, o1) :: news, p.1 ≠ ls := by
    intro itx p hp
    rcases List.mem_cons.mp hp with rfl | hp
    · exact Nat.ne_of_gt lsI
    rcases List.mem_cons.mp hp with rfl | hp
    · exact Nat.ne_of_gt lsl
    rcases List.mem_cons.mp hp with rfl | hp
    · exact na2
    rcases List.mem_cons.mp hp with rfl | hp
    · exact na1
    exact hnews p hp
  have hoffI : ∀ (lo : Obj), ∀ p ∈ (ls, lo) :: (lst, W.listOf #[.ref a1, .ref a2] 0) :: (a2, tupOf [.str t2 tt2, .int w2 tw2]) :: (a1, tupOf [.str t1 tt1, .int w1 tw1]) :: (L' + 1 + 1, o2) :: (L' + 1, o1) :: news, p.1 ≠ I := by
    intro lo p hp
    rcases List.mem_cons.mp hp with rfl | hp
    · exact Nat.ne_of_lt lsI
    · refine Nat.ne_of_lt (ltI p ?_)
      rcases List.mem_cons.mp hp with rfl | hp
      · exact .head _
      rcases List.mem_cons.mp hp with rfl | hp
      · exact .tail _ (.head _)
      rcases List.mem_cons.mp hp with rfl | hp
      · exact .tail _ (.tail _ (.head _))
      exact .tail _ (.tail _ (.tail _ (.tail _ hp)))
  refine side_turn (its := []) (n := 0) (rest := (I, it) :: (lst, W.listOf #[.ref a1, .ref a2] 0) :: (a2, tupOf [.str t2 tt2, .int w2 tw2]) :: (a1, tupOf [.str t1 tt1, .int w1 tw1]) :: (L' + 1 + 1, o2) :: (L' + 1, o1) :: news) F (news_sub N ?_) hsA ((kA _ (by decide +kernel)).trans hsides) rfl d2 (hne it) (.tail _ (.tail _ (.tail _ (.tail _ (.head _))))) (.tail _ (.tail _ (.tail _ (.head _)))) (by decide) ht1 ?_
  · intro p hp
    rcases List.mem_cons.mp hp with rfl | hp
    · exact .tail _ (.tail _ (.tail _ (.tail _ (.head _))))
    rcases List.mem_cons.mp hp with rfl | hp
    · exact .head _
    rcases List.mem_cons.mp hp with rfl | hp
    · exact .tail _ (.head _)
    rcases List.mem_cons.mp hp with rfl | hp
    · exact .tail _ (.tail _ (.head _))
    rcases List.mem_cons.mp hp with rfl | hp
    · exact .tail _ (.tail _ (.tail _ (.head _)))
    exact .tail _ (.tail _ (.tail _ (.tail _ (.tail _ hp))))
  intro h tk tb1 F N
  refine unr_next ?_
  refine UnrEnd.intro F N ((ls, W.listOf [Value.str (br (rk op) w1 t1) tb1].toArray 1) :: (lst, W.listOf #[.ref a1, .ref a2] 0) :: (a2, tupOf [.str t2 tt2, .int w2 tw2]) :: (a1, tupOf [.str t1 tt1, .int w1 tw1]) :: (L' + 1 + 1, o2) :: (L' + 1, o1) :: news) ?_ (hoffI _) ⟨.tail _ (.head _), ?_⟩
  · intro p hp
    rcases List.mem_cons.mp hp with rfl | hp
    · exact .tail _ (.head _)
    rcases List.mem_cons.mp hp with rfl | hp
    · exact .head _
    exact .tail _ (.tail _ hp)
  refine ListRest.succ ?_
  clear hit N F
  intro it h tk hit F N
  refine fr_abs F ?_
  intro mB F hsB kB
  refine side_turn (its := [Value.str (br (rk op) w1 t1) tb1]) (n := 1) (rest := (I, it) :: (lst, W.listOf #[.ref a1, .ref a2] 0) :: (a2, tupOf [.str t2 tt2, .int w2 tw2]) :: (a1, tupOf [.str t1 tt1, .int w1 tw1]) :: (L' + 1 + 1, o2) :: (L' + 1, o1) :: news) F (news_sub N ?_) hsB ((kB _ (by decide +kernel)).trans ((kA _ (by decide +kernel)).trans hsides)) rfl d2 (hne it) (.tail _ (.tail _ (.tail _ (.tail _ (.head _))))) (.tail _ (.tail _ (.head _))) (by simp) ht2 ?_
  · intro p hp
    rcases List.mem_cons.mp hp with rfl | hp
    · exact .tail _ (.head _)
    rcases List.mem_cons.mp hp with rfl | hp
    · exact .head _
    exact .tail _ (.tail _ hp)
  intro h tk tb2 F N
  refine unr_next ?_
  refine UnrEnd.intro F N ((ls, W.listOf [Value.str (br (rk op) w1 t1) tb1, Value.str (br (rk op) w2 t2) tb2].toArray 2) :: (lst, W.listOf #[.ref a1, .ref a2] 0) :: (a2, tupOf [.str t2 tt2, .int w2 tw2]) :: (a1, tupOf [.str t1 tt1, .int w1 tw1]) :: (L' + 1 + 1, o2) :: (L' + 1, o1) :: news) ?_ (hoffI _) ⟨.tail _ (.head _), ?_⟩
  · intro p hp
    rcases List.mem_cons.mp hp with rfl | hp
    · exact .tail _ (.head _)
    rcases List.mem_cons.mp hp with rfl | hp
    · exact .head _
    exact .tail _ (.tail _ hp)
  refine ListRest.zero ?_
  intro h tk F N
  refine then_next ?_
  -- op = ops[cut]
  refine st_asg ?_
  refine Subscript_ ?_
  refine nameX_C N (c := L' + 1) (o := o1) rfl (.tail _ (.tail _ (.tail _ (.tail _ (.tail _ (.head _)))))) d1 ?_ rfl rfl
  refine nameX_L F ((kB _ (by decide +kernel)).trans ((kA _ (by decide +kernel)).trans hcut)) ?_
  refine item_at (News.isList N (.tail _ (.tail _ (.tail _ (.tail _ (.tail _ (.tail _ mp))))))) (by omega) (by omega) (v := .str op top) (by rw [ek2]; exact eop) ?_
  refine stL F N ?_
  intro h m₈ tk hop8 keep8 F N
  have hsides8 : m₈ "sides" = some (.ref ls) := (keep8 _ (by decide +kernel)).trans ((kB _ (by decide +kernel)).trans ((kA _ (by decide +kernel)).trans hsides))
  -- word = ...
  refine st_asg ?_
  refine wpAny_mono (Q := fun v s' => ∃ t tk', v = .str (py op) t ∧ s' = { s with heap := h, toks := tk' }) ?_ ?_ (fun _ _ e => e)
  · refine IfExp_ ?_
    refine wpAny_isTrue_Compare1 ?_
    refine nameX_L F hop8 ?_
    refine cstr ?_
    intro _ _
    refine eqS rfl ?_
    refine (Bool.eq_false_or_eq_true (op == Str.ofString "||")).elim (fun hb => ?_) (fun hb => ?_)
    · refine truthyT hb ?_
      refine ite_tt ?_
      refine cstr ?_
      intro t' tk'
      exact ⟨t', tk', by rw [py, if_pos (eq_of_beq hb)], rfl⟩
    refine truthyF hb ?_
    refine ite_ff ?_
    refine IfExp_ ?_
    refine wpAny_isTrue_Compare1 ?_
    refine nameX_L F hop8 ?_
    refine cstr ?_
    intro _ _
    refine eqS rfl ?_
    have hb1 : ¬ op = Str.ofString "||" := ne_of_beq_false hb
    refine (Bool.eq_false_or_eq_true (op == Str.ofString "&&")).elim (fun hb => ?_) (fun hb => ?_)
    · refine truthyT hb ?_
      refine ite_tt ?_
      refine cstr ?_
      intro t' tk'
      exact ⟨t', tk', by rw [py, if_neg hb1, if_pos (eq_of_beq hb)], rfl⟩
    refine truthyF hb ?_
    refine ite_ff ?_
    refine IfExp_ ?_
    refine wpAny_isTrue_Compare1 ?_
    refine nameX_L F hop8 ?_
    refine cstr ?_
    intro _ _
    refine eqS rfl ?_
    have hb2 : ¬ op = Str.ofString "&&" := ne_of_beq_false hb
    refine (Bool.eq_false_or_eq_true (op == Str.ofString "/")).elim (fun hb => ?_) (fun hb => ?_)
    · refine truthyT hb ?_
      refine ite_tt ?_
      refine cstr ?_
      intro t' tk'
      exact ⟨t', tk', by rw [py, if_neg hb1, if_neg hb2, if_pos (eq_of_beq hb)], rfl⟩
    refine truthyF hb ?_
    refine ite_ff ?_
    have hb3 : ¬ op = Str.ofString "/" := ne_of_beq_false hb
    refine nameX_L F hop8 ?_
    exact ⟨top, _, by rw [py, if_neg hb1, if_neg hb2, if_neg hb3], rfl⟩
  rintro _ _ ⟨twd, tk', rfl, rfl⟩
  refine stL F N ?_
  intro h m₉ tk hword keep9 F N
  replace hsides8 := (keep9 _ (by decide +kernel)).trans hsides8
  -- return (sides[0] + ' ' + word + ' ' + sides[1], weakest)
  have hpy := py_len hop
  have hbr1 := br_len (rk op) w1 t1
  have hbr2 := br_len (rk op) w2 t2
  have hsp : (PySem.Str.ofString " ").length = 1 := by decide +kernel
  refine st_ret ?_
  refine Tuple_ ?_
  refine sp_more nofun ?_
  refine wpAny_BinOp ?_
  refine wpAny_BinOp ?_
  refine wpAny_BinOp ?_
  refine wpAny_BinOp ?_
  refine Subscript_ ?_
  refine nameX_L F hsides8 ?_
  refine cint ?_
  intro _ _
  refine item_at (News.isList N (.head _)) (Int.le_refl 0) (by omega) rfl ?_
  refine cstr ?_
  intro _ _
  refine addS ?_ ?_
  · rw [hsp]; omega
  intro _ _
  refine nameX_L F hword ?_
  refine addS ?_ ?_
  · rw [Str.length_append, hsp]; omega
  intro _ _
  refine cstr ?_
  intro _ _
  refine addS ?_ ?_
  · rw [Str.length_append, Str.length_append, hsp]; omega
  intro _ _
  refine Subscript_ ?_
  refine nameX_L F hsides8 ?_
  refine cint ?_
  intro _ _
  refine item_at (i := 1) (News.isList N (.head _)) (by omega) (by omega) rfl ?_
  refine addS ?_ ?_
  · rw [Str.length_append, Str.length_append, Str.length_append, hsp]; omega
  intro tres _
  refine sp_more nofun ?_
  refine nameX_C N (c := L' + 1 + 1) (o := o2) rfl (.tail _ (.tail _ (.tail _ (.tail _ (.head _))))) d2 ?_ rfl rfl
  refine sp_nil ?_
  refine kup_newTuple F N ?_ (by show 2 ≤ sizeLine; decide)
  intro DD hh F N ltd
  refine leaveK_ F N ?_
  intro F N
  refine ret _ [(DD, tupOf [.str (glue (br (rk op) w1 t1) op (br (rk op) w2 t2)) tres, .int (rk op) tMw])] _ _ ⟨DD, _, _, rfl, rfl⟩ F (news_sub N ?_)
  intro p hp
  rcases List.mem_cons.mp hp with rfl | hp
  · exact .head _
  · exact .tail _ (.tail _ (.tail _ (.tail _ (.tail _ (.tail _ (.tail _ hp))))))

theorem Words.tlen {os ps : List Str} {t : Str} {wk : Int} (W : Words os ps t wk) : (∀ o ∈ os, o.length ≤ 5) → t.length ≤ 14 * ps.length + 5 := by
  induction W with
  | one o => intro h; have := h o (.head _); simp; omega
  | @cut os1 os2 ps1 ps2 op t1 t2 w1 w2 hop h1 h2 _ _ ih1 ih2 =>
    intro h
    have a := ih1 fun o ho => h o (List.mem_append_left _ ho)
    have b := ih2 fun o ho => h o (List.mem_append_right _ ho)
    have c := glue_len (br (rk op) w1 t1) (br (rk op) w2 t2) hop
    have d := br_len (rk op) w1 t1
    have e := br_len (rk op) w2 t2
    simp only [List.length_append, List.length_cons]
    omega
theorem words_ok {w : World} {mean : ExcName → Option Value} {mg mb : Str → Option Value} {os ps : List Str} {t : Str} {wk : Int} (Wd : Words os ps t wk) : (∀ o ∈ os, o.length ≤ 5) → ps.length ≤ 63 →
    ∀ {lo lp : Addr} {vo vp : List Value} {no np : Nat} {news : List (Addr × Obj)}, (lo, W.listOf vo.toArray no) ∈ news → (lp, W.listOf vp.toArray np) ∈ news → StrsAre vo os → StrsAre vp ps → Ctr w mean mg mb 95 [.ref lo, .ref lp] (ps.length + 20) news news (WOut t wk) := by
  induction Wd with
  | one o =>
    intro _ _ lo lp vo vp no np news mo mp so sp
    exact words_one mo mp so sp
  | @cut os1 os2 ps1 ps2 op t1 t2 w1 w2 hop h1 h2 W1 W2 ih1 ih2 =>
    intro ho hl lo lp vo vp no np news mo mp so sp
    have ho1 : ∀ o ∈ os1, o.length ≤ 5 := fun o h => ho o (List.mem_append_left _ h)
    have ho2 : ∀ o ∈ os2, o.length ≤ 5 := fun o h => ho o (List.mem_append_right _ h)
    simp only [List.length_append, List.length_cons] at hl
    have a := W1.tlen ho1
    have b := W2.tlen ho2
    have e : (ps1 ++ op :: ps2).length + 20 = ps1.length + ps2.length + 1 + 20 := by simp only [List.length_append, List.length_cons]; omega
    rw [e]
    exact words_cut hop h1 h2 W1.len W2.len (by omega) (by omega) (by omega) (ih1 ho1 (by omega)) (ih2 ho2 (by omega)) mo mp so sp
end Mine
end
section
open PySem PySem.W PyProof.Rows PySem.Calls
set_option Elab.async false
set_option maxRecDepth 100000
set_option maxHeartbeats 4000000
namespace Mine
/-- the iterator object: the list at lt, the place i -/
def ItAt (io : Obj) (lt : Addr) (i : Nat) : Prop := io.cls = .type "list_iterator" ∧ io.data = .fields #[.ref lt, .int (i : Int) 0]
section
variable {prog : Program} {w : World} {A : Around} {E : Value → Shared → Prop} {s : Shared} {h₀ : Heap} {L it lt : Addr} {m : Str → Option Value} {news rest : List (Addr × Obj)} {io : Obj} {i n : Nat} {vs : List Value} {x : Value}
theorem special_listiter {items : Array Value} {Q : Option Value → Shared → Prop} (hit : s.heap.IsListIter it lt i) (hl : s.heap.IsList lt items) (hx : items[i]? = some x)
    (hQ : ∀ h', h'.IsListIter it lt (i + 1) → Heap.SameBut it s.heap h' → Q (some x) { s with heap := h' }) :
    wpAny (model prog w) A (callSpecial? (.ref it) (Str.ofString "__next__")) Q E s := by
  obtain ⟨o, ho, hc, hd⟩ := id hit
  obtain ⟨ol, hol, _, nl, hdl⟩ := hl
  refine wpAny_callSpecial?_slot (name := Str.ofString "__next__") hit.typeIs slot_listiter_next
    (wpAny_call_entry slot_listiter_next hit.typeIs entry_listiter_next ?_ (args_listiter_next _))
  show wpAny _ _ (field (.ref it) 0 >>= _) _ _ s
  refine wpAny_bind (wpAny_field ho hd (x := .ref lt) rfl ?_)
  show wpAny _ _ (if (Value.ref lt == Value.none) = true then _ else _) _ _ s
  rw [if_neg (show ¬ ((Value.ref lt == Value.none) = true) from Bool.false_ne_true)]
  show wpAny _ _ (field (.ref it) 1 >>= _) _ _ s
  refine wpAny_bind (wpAny_field ho hd (x := .int i 0) rfl ?_)
  show wpAny _ _ (seqItems? (.ref lt) >>= _) _ _ s
  refine wpAny_bind (wpAny_seqItems hol hdl ?_)
  simp only [Int.toNat_natCast, hx]
  refine wpAny_bind (wpAny_setField ho hd (by simp) (wpAny_pure ⟨x, rfl, hQ _ ?_ (Heap.SameBut.update ..)⟩))
  exact ⟨_, Heap.get?_update_self _ ho (Obj.isFreed_of_fields (Obj.data_mapFields hd _)), (Obj.cls_mapFields ..).trans hc, by
    rw [Obj.data_mapFields hd]; simp [rawInt]⟩
theorem nextL {Q : Value → Shared → Prop} (F : Fr h₀ L s.heap m) (N : News h₀ L s.heap ((it, io) :: rest)) (hne : ∀ p ∈ rest, p.1 ≠ it) (hi : ItAt io lt i) (ml : (lt, W.listOf vs.toArray n) ∈ rest) (hx : vs[i]? = some x)
    (h : ∀ h' io', ItAt io' lt (i + 1) → Fr h₀ L h' m → News h₀ L h' ((it, io') :: rest) → Q x { s with heap := h' }) :
    wpAny (model prog w) A (call (.builtin "next") [.ref it]) Q E s := by
  have hm := N (it, io) (.head _)
  have hit : s.heap.IsListIter it lt i := ⟨io, hm.1, hi.1, hi.2⟩
  have hl : s.heap.IsList lt vs.toArray := News.isList N (.tail _ ml)
  refine call_function_entry (by decide +kernel) (by decide +kernel) kdk_entry_next (kdk_args_next _) ?_
  unfold Builtin.«next»
  refine wpAny_bind (m := someArgs "next" 1 2 _) (wpAny_of_eq (a := [Value.ref it]) (by first | rfl | kernel_rfl!) ?_)
  dsimp only
  refine wpAny_bind (wpAny_specialOf (name := Str.ofString "__next__") hit.typeIs slot_listiter_next.lookup ?_)
  refine wpAny_ite_split (fun hab => absurd hab (by decide)) (fun _ => ?_)
  refine wpAny_bind (special_listiter hit hl (by simpa using hx) fun h' hit' hs => ?_)
  obtain ⟨o', ho', hc', hd'⟩ := hit'
  exact wpAny_pure ⟨_, rfl, h h' o' ⟨hc', hd'⟩ (F.change hs hm.2.1 hm.2.2) (News.setIn (own := []) N (fun _ h => nomatch h) hne hs ho')⟩
theorem iterL {Q : Value → Shared → Prop} (F : Fr h₀ L s.heap m) (N : News h₀ L s.heap news) (ml : (lt, W.listOf vs.toArray n) ∈ news)
    (h : ∀ it h' io, ItAt io lt 0 → Fr h₀ L h' m → News h₀ L h' ((it, io) :: news) → (∀ p ∈ news, p.1 < it) → Q (.ref it) { s with heap := h' }) :
    wpAny (model prog w) A (call (.builtin "iter") [.ref lt]) Q E s := by
  have hl : s.heap.IsList lt vs.toArray := News.isList N ml
  refine call_function_entry (by decide +kernel) (by decide +kernel) kdk_entry_iter (kdk_args_iter _) ?_
  unfold Builtin.«iter»
  refine wpAny_bind (m := someArgs "iter" 1 2 _) (wpAny_of_eq (a := [Value.ref lt]) (by first | rfl | kernel_rfl!) ?_)
  show wpAny _ _ (pyIter (.ref lt) >>= _) _ _ _
  refine wpAny_bind (wpAny_pyIter_list hl ?_)
  exact wpAny_pure ⟨_, rfl, h _ _ _ ⟨rfl, rfl⟩ (F.push _) (News.push F N _ rfl) (fun q hq => Heap.lt_size (N q hq).1)⟩
end
end Mine
end
section
open PySem PySem.W PyProof.Rows PySem.Calls
set_option Elab.async false
set_option maxRecDepth 100000
set_option maxHeartbeats 4000000
namespace Mine
theorem walks_from {prog : Program} {w : World} {A : Around} (hh : A.handled = none) (I ax : Addr) (hne : ax ≠ I) (items : Array Value) (i : Nat) (hi : i ≤ items.size) :
    Walks prog w A I [I, ax] [I] (items.size - i) (fun k v => items[i + k]? = some v) (fun k h => h.IsListIter I ax (i + k) ∧ h.IsList ax items) where
  sub := (Walks.list (prog := prog) (w := w) hh I ax hne items).sub
  frame := fun k => (Walks.list (prog := prog) (w := w) hh I ax hne items).frame (i + k)
  item := fun k s Q E hk => (Walks.list (prog := prog) (w := w) hh I ax hne items).item (i + k) s Q E (by omega)
  done := fun s Q E st => (Walks.list (prog := prog) (w := w) hh I ax hne items).done s Q E (by rw [show i + (items.size - i) = items.size by omega] at st; exact st)
  self := fun k => (Walks.list (prog := prog) (w := w) hh I ax hne items).self (i + k)
section
variable {prog : Program} {w : World} {A : Around} {E : Value → Shared → Prop} {s : Shared} {it lt : Addr} {i : Nat} {items : Array Value}
theorem li_extend {R : Result → Shared → Prop} (hh : A.handled = none) (hit : s.heap.IsListIter it lt i) (hl : s.heap.IsList lt items) (hne : lt ≠ it) (hi : i ≤ items.size) (S : Addr) (hSr : S ≠ it) (hSd : S ≠ lt) (res : Value) (c₀ : Nat) (hS : s.heap.get? S = some { cls := .type "list", data := .seq #[] c₀ })
    (hR : ∀ h' tk acc' c', (∀ b o, b ≠ S → b ≠ it → s.heap.get? b = some o → h'.get? b = some o) → h'.get? S = some { cls := .type "list", dict := none, data := .seq acc' c', slots := #[] } → ItemsOf (fun k v => items[i + k]? = some v) acc' (items.size - i) → R (.ok (.ret res)) { s with heap := h', toks := tk }) (hn : items.size - i ≤ sizeLine) :
    wpAny (model prog w) A.in1 (Builtin.List.listExtendWith (.ref S) (.ref it) res)
      (fun fin s' => match fin with | .done f => R (.ok f) s' | .again c' => c'.quiet = true ∧ codeAny (model prog w) A c' R s') (fun e s' => R (.error e) s') s := by
  have hSf : S ∉ [it, lt] := by simp only [List.mem_cons, List.not_mem_nil, or_false, not_or]; exact ⟨hSr, hSd⟩
  have W := walks_from (prog := prog) (w := w) (A := A.in1) hh it lt hne items i hi
  have h1 : Builtin.List.listSameRef (.ref S) (.ref it) = false := by simp [Builtin.List.listSameRef, hSr]
  have st0 : s.heap.IsListIter it lt (i + 0) ∧ s.heap.IsList lt items := ⟨hit, hl⟩
  unfold Builtin.List.listExtendWith
  refine wpAny_bind (wpAny_typeOf hit.typeIs ?_)
  rw [if_neg (by rw [h1]; decide)]
  refine wpAny_bind (W.self 0 _ _ _ st0 ?_)
  refine wpAny_bind (wpAny_holding ?_)
  unfold Builtin.List.listLengthHint
  refine wpAny_bind (wpAny_specialOf hit.typeIs F.nolen_li ?_)
  show wpAny _ A.in1 (specialOf (Value.ref it) (Str.ofString "__length_hint__") >>= _) _ _ _
  refine wpAny_bind (wpAny_specialOf hit.typeIs F.hint_li ?_)
  generalize hid : ("list_iterator.__length_hint__" : String) = id0
  wp_delta
  rw [show splitId id0 = some ("list_iterator", "__length_hint__") from by subst hid; decide +kernel]
  subst hid
  refine wpAny_bind (wpAny_isInstance (b := true) hit.typeIs (by rw [isSubtype_type]; kernel_rfl) ?_)
  refine wpAny_pure ?_
  rw [if_neg (by decide)]
  refine wpAny_pure ⟨plainId_quiet F.plain_extend_loop _, codeAny_extend_loopS W.toS hn S hSf res _ 0 _ #[] c₀ rfl (Nat.zero_le _) st0 hS (ItemsOf.nil _) fun s' acc' c' hm hS' hacc => ?_⟩
  rw [Moved.eq_with hm]
  refine hR s'.heap s'.toks acc' c' (fun b o hb hb2 e => hm.heap b o (fun hmem => ?_) e) hS' hacc
  rcases List.mem_cons.mp hmem with e' | hmem
  · exact hb e'
  · exact hb2 (List.mem_singleton.mp hmem)
theorem li_init {R : Result → Shared → Prop} (hh : A.handled = none) (hit : s.heap.IsListIter it lt i) (hl : s.heap.IsList lt items) (hne : lt ≠ it) (hi : i ≤ items.size) (S : Addr) (hSr : S ≠ it) (hSd : S ≠ lt) (hS : s.heap.get? S = some { cls := .type "list", data := .seq #[] })
    (hR : ∀ h' tk acc' c', (∀ b o, b ≠ S → b ≠ it → s.heap.get? b = some o → h'.get? b = some o) → h'.get? S = some { cls := .type "list", dict := none, data := .seq acc' c', slots := #[] } → ItemsOf (fun k v => items[i + k]? = some v) acc' (items.size - i) → R (.ok (.ret .none)) { s with heap := h', toks := tk }) (hn : items.size - i ≤ sizeLine) :
    wpAny (model prog w) A.in1 (Builtin.«list.__init__» ⟨[.ref S, .ref it], []⟩)
      (fun fin s' => match fin with | .done f => R (.ok f) s' | .again c' => c'.quiet = true ∧ codeAny (model prog w) A c' R s') (fun e s' => R (.error e) s') s := by
  show wpAny _ _ (do let old ← Builtin.List.listItems (.ref S); Builtin.List.listUpdate (.ref S) (fun _ => #[]); letGo old.toList.reverse; Builtin.List.listExtendWith (.ref S) (.ref it) .none) _ _ s
  refine wpAny_bind ?_
  unfold Builtin.List.listItems
  refine wpAny_bind (wpAny_seqItems hS rfl (wpAny_pure ?_))
  show wpAny _ _ (updateSeq S (fun _ => #[]) >>= fun _ => letGo (#[] : Array Value).toList.reverse >>= fun _ => Builtin.List.listExtendWith (.ref S) (.ref it) .none) _ _ s
  refine wpAny_bind (wpAny_updateSeq hS rfl ?_)
  have hS₂ := Heap.get?_update_self (Obj.mapSeq (fun _ => (#[] : Array Value))) hS rfl
  have oth : ∀ b o, b ≠ S → s.heap.get? b = some o → (s.heap.update S (Obj.mapSeq (fun _ => (#[] : Array Value)))).get? b = some o :=
    fun b o hb e => (Heap.get?_update_other _ _ (Ne.symm hb)).trans e
  refine wpAny_bind (wpAny_letGo ?_)
  refine li_extend hh (hit.at fun o e => oth it o hSr.symm e) (hl.at fun o e => oth lt o hSd.symm e) hne hi S hSr hSd .none _ hS₂ (fun h' tk acc' c' hk hS' hacc => ?_) hn
  exact hR h' tk acc' c' (fun b o hb hb2 e => hk b o hb hb2 (oth b o hb e)) hS' hacc
theorem li_call {Q : Value → Shared → Prop} (hh : A.handled = none) (hit : s.heap.IsListIter it lt i) (hl : s.heap.IsList lt items) (hne : lt ≠ it) (hi : i ≤ items.size) (hn : items.size - i ≤ sizeLine)
    (hQ : ∀ h' tk acc' c', (∀ b o, b ≠ it → s.heap.get? b = some o → h'.get? b = some o) → h'.get? s.heap.objs.size = some { cls := .type "list", dict := none, data := .seq acc' c', slots := #[] } → ItemsOf (fun k v => items[i + k]? = some v) acc' (items.size - i) → Q (.ref s.heap.objs.size) { s with heap := h', toks := tk }) :
    wpAny (model prog w) A (call (.type "list") [.ref it]) Q E s := by
  refine callType_codes (Q₁ := fun obj s₁ => obj = .ref s.heap.objs.size ∧ s₁ = { s with heap := s.heap.push { cls := .type "list", data := .seq #[] } }) PySem.F.called_list (PySem.F.typeCall_list_1 _) PySem.F.entry_list_init
    (code_list_new _ ⟨rfl, rfl⟩) fun obj s₁ h₁ => ?_
  obtain ⟨rfl, rfl⟩ := h₁
  have hS : (s.heap.push { cls := .type "list", data := .seq #[] }).get? s.heap.objs.size = some { cls := .type "list", data := .seq #[] } := Heap.get?_push_size _ rfl
  have lt1 : it < s.heap.objs.size := let ⟨_, ho, _⟩ := hit; Heap.lt_size ho
  have lt2 : lt < s.heap.objs.size := let ⟨_, ho, _⟩ := hl; Heap.lt_size ho
  refine ⟨⟨_, hS, rfl⟩, PySem.F.args_list_init_2 _ _, li_init (A := A.in1) hh (hit.at fun o e => Heap.get?_push_of_some _ e) (hl.at fun o e => Heap.get?_push_of_some _ e) hne hi _ (Nat.ne_of_gt lt1) (Nat.ne_of_gt lt2) hS (fun h' tk acc' c' hk hS' hacc => ?_) hn⟩
  exact ⟨rfl, hQ h' tk acc' c' (fun b o hb e => hk b o (Nat.ne_of_lt (Heap.lt_size e)) hb (Heap.get?_push_of_some _ e)) hS' hacc⟩
theorem listL {Q : Value → Shared → Prop} {h₀ : Heap} {L : Addr} {m : Str → Option Value} {rest : List (Addr × Obj)} {io : Obj} {vs : List Value} {n : Nat} (hh : A.handled = none) (F : Fr h₀ L s.heap m) (N : News h₀ L s.heap ((it, io) :: rest)) (hne : ∀ p ∈ rest, p.1 ≠ it) (hi : ItAt io lt i) (ml : (lt, W.listOf vs.toArray n) ∈ rest)
    (hle : i ≤ vs.length) (hn : vs.length ≤ sizeLine)
    (h : ∀ D c h' tk, Fr h₀ L h' m → News h₀ L h' ((D, W.listOf (vs.drop i).toArray c) :: rest) → Q (.ref D) { s with heap := h', toks := tk }) :
    wpAny (model prog w) A (call (.type "list") [.ref it]) Q E s := by
  have hm := N (it, io) (.head _)
  have hit : s.heap.IsListIter it lt i := ⟨io, hm.1, hi.1, hi.2⟩
  have hl : s.heap.IsList lt vs.toArray := News.isList N (.tail _ ml)
  refine li_call hh hit hl (hne _ ml) (by simpa using hle) (by rw [List.size_toArray]; omega) fun h' tk acc c hk hD hacc => ?_
  have F' : Fr h₀ L h' m := ⟨F.ns.at' fun o e => hk L o (Ne.symm hm.2.1) e, fun b o e => hk b o (fun eb => by rw [eb, hm.2.2] at e; cases e) (F.keep b o e), F.above⟩
  have ea : acc = (vs.drop i).toArray := by
    have h1 : acc.size = vs.length - i := hacc.1
    refine Array.ext' ?_
    refine List.ext_getElem? fun k => ?_
    rw [List.getElem?_drop]
    by_cases hk : k < acc.size
    · have := hacc.2 k acc[k] (by simp [hk])
      have e2 : vs[i + k]? = some acc[k] := by simpa using this
      rw [e2]; simp [hk]
    · rw [List.getElem?_eq_none (by rw [Array.length_toList]; omega), List.getElem?_eq_none (by omega)]
  refine h _ c h' tk F' fun q hq => ?_
  rcases List.mem_cons.mp hq with rfl | hq
  · exact ⟨by rw [← ea]; exact hD, Nat.ne_of_gt F.ns.lt, F.fresh⟩
  · have hq' := N q (.tail _ hq)
    exact ⟨hk _ _ (hne _ hq) hq'.1, hq'.2⟩
end
end Mine
end
section
open PySem PySem.W PyProof.Rows PySem.Calls PySem.NumText
set_option Elab.async false
set_option maxRecDepth 100000
set_option maxHeartbeats 4000000
namespace Mine
theorem gives_int4 {u v : Tok} : Gives (Builtin.«int.__new__» ⟨[.type "int", .str (Str.ofString "4") u, .int 10 v], []⟩) (.int 4) :=
  .of_wp fun M A E s Q h => by
    obtain ⟨hp, g, d, tk, os⟩ := s
    have f1 := F.conv_sub_int
    have f2 := F.madeHere_int
    repeat (any_goals (first
      | assumption
      | ((with_reducible show wpAny _ _ ((int_private% "intFromText") _ _ _) _ _ _); refine KIN.wp_text (n := 4) (by decide +kernel) (by kernel_rfl) (by decide +kernel) ?_)
      | wp_step))
    all_goals first | exact ⟨_, rfl, h⟩ | skip
theorem gives_int17 {u v : Tok} : Gives (Builtin.«int.__new__» ⟨[.type "int", .str (Str.ofString "017") u, .int 10 v], []⟩) (.int 17) :=
  .of_wp fun M A E s Q h => by
    obtain ⟨hp, g, d, tk, os⟩ := s
    have f1 := F.conv_sub_int
    have f2 := F.madeHere_int
    repeat (any_goals (first
      | assumption
      | ((with_reducible show wpAny _ _ ((int_private% "intFromText") _ _ _) _ _ _); refine KIN.wp_text (n := 17) (by decide +kernel) (by kernel_rfl) (by decide +kernel) ?_)
      | wp_step))
    all_goals first | exact ⟨_, rfl, h⟩ | skip
theorem typeCall_int_2 (a b : Value) : checkTypeCall "int" ⟨[a, b], []⟩ = pure () := by kernel_rfl
theorem newCall_int_2 (a b : Value) : checkBuiltinCall "int.__new__" ⟨[.type "int", a, b], []⟩ = pure () := by kernel_rfl
section
variable {prog : Program} {w : World} {A : Around} {E : Value → Shared → Prop} {s : Shared} {Q : Value → Shared → Prop}
theorem call_int_2 {x y : Value} {S : PySem.Spec} (g : Meets (Builtin.«int.__new__» ⟨[.type "int", x, y], []⟩) S) (h : S A.in1 (wants (fun obj s₁ => s₁.TypeIs obj "int" ∧ Q obj s₁) E) s) :
    wpAny (model prog w) A (call (.type "int") [x, y]) Q E s :=
  callType_new F.called_int F.newNe_int (typeCall_int_2 x y) (newCall_int_2 x y) (fun obj => F.args_object_init_3 obj x y) F.entry_int_new g h
theorem int4 {u v : Tok} (h : ∀ t tk, Q (.int 4 t) { s with toks := tk }) : wpAny (model prog w) A (call (.type "int") [.str (Str.ofString "4") u, .int 10 v]) Q E s :=
  call_int_2 gives_int4.meets (show (Made.int 4).post _ s from ⟨rfl, h _ _⟩)
theorem int17 {u v : Tok} (h : ∀ t tk, Q (.int 17 t) { s with toks := tk }) : wpAny (model prog w) A (call (.type "int") [.str (Str.ofString "017") u, .int 10 v]) Q E s :=
  call_int_2 gives_int17.meets (show (Made.int 17).post _ s from ⟨rfl, h _ _⟩)
end
end Mine
end
section
open PySem PySem.W PyProof.Rows PySem.Calls
set_option Elab.async false
set_option maxRecDepth 100000
set_option maxHeartbeats 4000000
namespace Mine
section
variable {prog : Program} {w : World} {A : Around} {E : Value → Shared → Prop} {s : Shared} {h₀ : Heap} {L b : Addr} {news : List (Addr × Obj)} {Q : Value → Shared → Prop} {t t1 t2 : Tok}
theorem mod_sd4 (N : News h₀ L s.heap news) (hb : (b, tupOf [.str (Str.ofString "") t1, .int 4 t2]) ∈ news) (h : ∀ t' k, Q (.str (Str.ofString "4") t') { s with toks := k }) :
    wpAny (model prog w) A (binaryOp .Mod (.str (Str.ofString "%s%d") t) (.ref b)) Q E s := by
  refine' KPt.mod_tuple (T := Str.ofString "4") N hb ?kptF ?kptm ?_
  case kptF => kpt_eq
  case kptm => kpt_run
  exact h
theorem mod_sd17 (N : News h₀ L s.heap news) (hb : (b, tupOf [.str (Str.ofString "") t1, .int 17 t2]) ∈ news) (h : ∀ t' k, Q (.str (Str.ofString "17") t') { s with toks := k }) :
    wpAny (model prog w) A (binaryOp .Mod (.str (Str.ofString "%s%d") t) (.ref b)) Q E s := by
  refine' KPt.mod_tuple (T := Str.ofString "17") N hb ?kptF ?kptm ?_
  case kptF => kpt_eq
  case kptm => kpt_run
  exact h
end

/-! the two tables of the top -/
theorem ops_in {w : World} {x : Str} (hx : IsOp x) : ∃ t, nsIn (KF w) 31 x = some (some (.int (rk x) t)) := by
  have key : ∀ y ∈ rankTab, ∃ t, nsIn (KF w) 31 y.1 = some (some (.int y.2 t)) := by
    intro y hy
    simp only [rankTab, List.mem_cons, List.not_mem_nil, or_false] at hy
    rcases hy with rfl | rfl | rfl | rfl | rfl | rfl | rfl | rfl | rfl | rfl | rfl | rfl | rfl <;> exact ⟨_, rfl⟩
  obtain ⟨y, hy, rfl⟩ := List.mem_map.mp hx
  obtain ⟨t, e⟩ := key y hy
  have : ∀ y ∈ rankTab, rk y.1 = y.2 := by decide +kernel
  exact ⟨t, by rw [this y hy]; exact e⟩
theorem nsIn_none {K : Frag} {a : Addr} {x : Str} {es : Array DictEntry} {n : Nat} (hl : K.lookup a = some ⟨.type "dict", none, .dict es n, #[]⟩) (h : ∀ e ∈ es.toList, e.key.isStr x = false) (hr : es.toList.any (·.refKey) = false) : nsIn K a x = some none := by
  unfold nsIn
  rw [hl]
  have hf : es.toList.find? (·.key.isStr x) = none := List.find?_eq_none.mpr (fun e he => by rw [h e he]; decide)
  simp only [hf, hr]
  rfl
theorem ops_out {w : World} {x : Str} (hx : ¬ IsOp x) : nsIn (KF w) 31 x = some none := by
  have ne : ∀ y ∈ opsL, (y == x) = false := fun y hy => by
    cases h : y == x with
    | false => rfl
    | true => exact absurd (eq_of_beq h ▸ hy) hx
  refine nsIn_none (K := KF w) (a := 31) rfl ?_ rfl
  repeat (first | exact List.forall_mem_nil _ | refine List.forall_mem_cons.mpr ⟨ne _ (by decide +kernel), ?_⟩)
theorem c2py_in {w : World} {x : Str} (d : Value) (hx : x = "||" ∨ x = "&&" ∨ x = "/") : ∃ t, nsIn (KF w) 77 x = some (some (.str (py x) t)) := by
  rcases hx with rfl | rfl | rfl <;> exact ⟨_, rfl⟩
theorem c2py_out {w : World} {x : Str} (h1 : x ≠ "||") (h2 : x ≠ "&&") (h3 : x ≠ "/") : nsIn (KF w) 77 x = some none := by
  refine nsIn_none (K := KF w) (a := 77) rfl ?_ rfl
  refine List.forall_mem_cons.mpr ⟨beq_eq_false_iff_ne.mpr (Ne.symm h1), List.forall_mem_cons.mpr ⟨beq_eq_false_iff_ne.mpr (Ne.symm h2), List.forall_mem_cons.mpr ⟨beq_eq_false_iff_ne.mpr (Ne.symm h3), List.forall_mem_nil _⟩⟩⟩
theorem keys31 {w : World} {es : Array DictEntry} {n : Nat} (hl : (KF w).lookup 31 = some ⟨.type "dict", none, .dict es n, #[]⟩) : KeysLit w.params es.toList := by
  have e : some _ = some _ := hl
  cases e
  k_keys
theorem keys77 {w : World} {es : Array DictEntry} {n : Nat} (hl : (KF w).lookup 77 = some ⟨.type "dict", none, .dict es n, #[]⟩) : KeysLit w.params es.toList := by
  have e : some _ = some _ := hl
  cases e
  k_keys
section
variable {w : World} {A : Around} {E : Value → Shared → Prop} {s : Shared} {h₀ : Heap} {L : Addr} {m : Str → Option Value} {Q : Value → Shared → Prop} {x : Str} {t : Tok}
theorem in_ops (F : Fr h₀ L s.heap m) (X : (KF w).In h₀) (hx : IsOp x) (h : ∀ tk, Q (.bool true) { s with toks := tk }) : wpAny (model PG w) A (compareOp .In (.str x t) (.ref 31)) Q E s := by
  obtain ⟨u, e⟩ := ops_in (w := w) hx
  exact topIn_K F X rfl (keys31 rfl) e (by decide) (h _)
theorem notin_ops (F : Fr h₀ L s.heap m) (X : (KF w).In h₀) (hx : ¬ IsOp x) (h : ∀ tk, Q (.bool false) { s with toks := tk }) : wpAny (model PG w) A (compareOp .In (.str x t) (.ref 31)) Q E s :=
  topIn_K F X rfl (keys31 rfl) (ops_out hx) (by decide) (h _)
theorem get_ops {value slice : Expr} (F : Fr h₀ L s.heap m) (X : (KF w).In h₀) (hx : IsOp x) (h : ∀ u tk, Q (.int (rk x) u) { s with toks := tk })
    (hs : subscripted slice false (.ref 31) (.str x t) = operate [.ref 31, .str x t] (getItem (.ref 31) (.str x t)) := by with_unfolding_all rfl) : wpAny (model PG w) A (subscriptTail value slice (.ref 31) (.str x t)) Q E s := by
  obtain ⟨u, e⟩ := ops_in (w := w) hx
  exact topItem_K F X rfl (keys31 rfl) e (h _ _) hs
theorem c2py_method {pl : Sem Bool} {Q : Value × List Value → Shared → Prop} (F : Fr h₀ L s.heap m) (X : (KF w).In h₀) (h : Q (.builtin "dict.get", [.ref 77]) s) : wpAny (model PG w) A (getMethod (.ref 77) "get" pl) Q E s :=
  have hm := mapOf_K (prog := PG) (w := w) (X.keeps F.keep) (a := 77) rfl (keys77 rfl)
  getMethod_builtin hm.typeIs PySem.F.plainAttrs_dict PySem.F.slot_dict_get PySem.F.type_dict_get hm.noDict h
theorem c2py_get {u : Tok} (F : Fr h₀ L s.heap m) (X : (KF w).In h₀) (h : ∀ t' tk, Q (.str (py x) t') { s with toks := tk }) : wpAny (model PG w) A (call (.builtin "dict.get") [.ref 77, .str x t, .str x u]) Q E s := by
  have hm := mapOf_K (prog := PG) (w := w) (X.keeps F.keep) (a := 77) rfl (keys77 rfl)
  refine call_meetsIn PySem.F.slot_dict_get hm.typeIs PySem.F.entry_dict_get (PySem.F.args_dict_get_3 _ _ _) (meets_dict_get_default (strKind PG w) 77 (strKind_is PG w x t) (by decide) _) ⟨_, hm, ?_⟩
  by_cases h1 : x = "||"
  · obtain ⟨v, e⟩ := c2py_in (w := w) .none (.inl h1)
    rw [find_K rfl e]; exact h _ _
  by_cases h2 : x = "&&"
  · obtain ⟨v, e⟩ := c2py_in (w := w) .none (.inr (.inl h2))
    rw [find_K rfl e]; exact h _ _
  by_cases h3 : x = "/"
  · obtain ⟨v, e⟩ := c2py_in (w := w) .none (.inr (.inr h3))
    rw [find_K rfl e]; exact h _ _
  rw [find_K rfl (c2py_out (w := w) h1 h2 h3)]
  have e : py x = x := by unfold py; rw [if_neg h1, if_neg h2, if_neg h3]
  rw [e] at h
  exact h _ _
end
end Mine
end
section
open PySem PySem.W PyProof.Rows PySem.Calls
set_option Elab.async false
set_option maxRecDepth 100000
set_option maxHeartbeats 4000000
namespace Mine
section
variable {prog : Program} {w : World} {A : Around} {E : Value → Shared → Prop} {s : Shared} {env : Env}
/-- one `%s` of a text -/
theorem fv_s {value : Expr} {pos : Pos} {x : Str} {Q : Value → Shared → Prop} (hz : x.length ≤ 100000)
    (h : wpAny (model prog w) A (eval value env) (fun v s₁ => ∃ t, v = .str x t ∧ ∀ t' tk, Q (.str x t') { s₁ with toks := tk }) E s) : wpAny (model prog w) A (eval (.FormattedValue value 115 none pos) env) Q E s := by
  refine wpAny_FormattedValue_s (wpAny_mono h (fun v s₁ h₁ => ?_) fun _ _ e => e)
  obtain ⟨t, rfl, k⟩ := h₁
  have hz' : x.length ≤ sizeLine := by rw [sizeLine_eq]; omega
  exact habitSame_str (fun t' tk => formatField_str (fun t'' tk' => k t'' tk') hz') hz'
theorem jp_c {c out : Str} {k : Nat} {p : Pos} {rest : List (Sem Value)} {Q : Value → Shared → Prop} (hz : (out ++ c).length ≤ 100000) (h : ∀ tk, wpAny (model prog w) A (joinParts (out ++ c) rest) Q E { s with toks := tk }) :
    wpAny (model prog w) A (joinParts out (eval (.Constant (.str c) k p) env :: rest)) Q E s := by
  refine joinParts_cons (cstr ?_)
  intro t tk
  exact ⟨by rw [sizeLine_eq]; omega, h tk⟩
theorem jp_end {out : Str} {Q : Value → Shared → Prop} (hz : out.length ≤ 100000) (h : ∀ t tk, Q (.str out t) { s with toks := tk }) : wpAny (model prog w) A (joinParts out []) Q E s :=
  joinParts_nil (h _ _) (by rw [sizeLine_eq]; omega)
theorem jp_n {h₀ : Heap} {L a : Addr} {m : Str → Option Value} {cn : Str} {cs : Scope} {ccd : Value} {cl : List (Str × Addr)} {n x out : Str} {np pos : Pos} {t : Tok} {rest : List (Sem Value)} {Q : Value → Shared → Prop}
    (F : Fr h₀ L s.heap m) (hv : m n = some (.str x t)) (hz : (out ++ x).length ≤ 100000) (h : ∀ tk, wpAny (model prog w) A (joinParts (out ++ x) rest) Q E { s with toks := tk })
    (hk : cs.kind = .function := by rfl) (hx : (envX cn cs L a ccd cl).kindOf n = some .local := by rfl) (hd : (n == ("__debug__" : Str)) = false := by decide) :
    wpAny (model prog w) A (joinParts out (eval (.FormattedValue (.Name n np) 115 none pos) (envX cn cs L a ccd cl) :: rest)) Q E s := by
  refine joinParts_cons (fv_s (x := x) ?_ (nameX_L F hv ?_ hk hx hd))
  · rw [Str.length_append] at hz; omega
  · refine ⟨t, rfl, fun t' tk => ⟨by rw [sizeLine_eq]; omega, h tk⟩⟩
end
end Mine
end
section
open PySem PySem.W PyProof.Rows PySem.Calls
set_option Elab.async false
set_option maxRecDepth 100000
set_option maxHeartbeats 4000000
namespace Mine
section
variable {prog : Program} {w : World} {A : Around} {E : Value → Shared → Prop} {s : Shared} {Q : Value → Shared → Prop} {t u : Tok}
theorem mod_par {r : Str} (hz : r.length ≤ 100000) (h : ∀ t' k, Q (.str (par r) t') { s with toks := k }) :
    wpAny (model prog w) A (binaryOp .Mod (.str (Str.ofString "(%s)") t) (.str r u)) Q E s := by
  refine' KPc.mod_str (T := fun z => par z) ?kpcF ?kpcl ?kpcm ?_
  case kpcF => kpc_eq
  case kpcl => omega
  case kpcm => k_dflt kpc_run_s
  exact h
end
end Mine
end
section
open PySem PySem.W PyProof.Rows
set_option Elab.async false
set_option maxRecDepth 100000
set_option maxHeartbeats 4000000
namespace Mine
def wTest : Stmt → Expr
  | .While t _ _ _ => t
  | _ => .Constant .none 0 ⟨0, 0, 0, 0⟩
def wBody : Stmt → List Stmt
  | .While _ b _ _ => b
  | _ => []
noncomputable def pWhl (P : Params) : Stmt := (fnBody P 85).getD 6 (.Pass ⟨0, 0, 0, 0⟩)
noncomputable def pStm (P : Params) (k : Nat) : Stmt := (wBody (pWhl P)).getD k (.Pass ⟨0, 0, 0, 0⟩)
/-- the names of a frame of _parse -/
structure PL (m : Str → Option Value) (it : Addr) (p : Int) (r y : Str) : Prop where
  tok : m "tokens" = some (.ref it)
  pri : ∃ t, m "priority" = some (.int p t)
  res : ∃ t, m "result" = some (.str r t)
  nxt : ∃ t, m "nexttok" = some (.str y t)
section
variable {m m' : Str → Option Value} {it : Addr} {p : Int} {r y r' y' x : Str} {t : Tok}
theorem PL.keep (V : PL m it p r y) (k : ∀ z, z ≠ x → m' z = m z) (h1 : Str.ofString "tokens" ≠ x) (h2 : Str.ofString "priority" ≠ x) (h3 : Str.ofString "result" ≠ x) (h4 : Str.ofString "nexttok" ≠ x) : PL m' it p r y :=
  ⟨(k _ h1).trans V.tok, let ⟨t, e⟩ := V.pri; ⟨t, (k _ h2).trans e⟩, let ⟨t, e⟩ := V.res; ⟨t, (k _ h3).trans e⟩, let ⟨t, e⟩ := V.nxt; ⟨t, (k _ h4).trans e⟩⟩
theorem PL.setRes (V : PL m it p r y) (e : m' (Str.ofString "result") = some (.str r' t)) (k : ∀ z, z ≠ Str.ofString "result" → m' z = m z) : PL m' it p r' y :=
  ⟨(k _ (by decide +kernel)).trans V.tok, let ⟨t, e⟩ := V.pri; ⟨t, (k _ (by decide +kernel)).trans e⟩, ⟨t, e⟩, let ⟨t, e⟩ := V.nxt; ⟨t, (k _ (by decide +kernel)).trans e⟩⟩
theorem PL.setNxt (V : PL m it p r y) (e : m' (Str.ofString "nexttok") = some (.str y' t)) (k : ∀ z, z ≠ Str.ofString "nexttok" → m' z = m z) : PL m' it p r y' :=
  ⟨(k _ (by decide +kernel)).trans V.tok, let ⟨t, e⟩ := V.pri; ⟨t, (k _ (by decide +kernel)).trans e⟩, let ⟨t, e⟩ := V.res; ⟨t, (k _ (by decide +kernel)).trans e⟩, ⟨t, e⟩⟩
end
noncomputable abbrev pEnv (w : World) (L : Addr) : Env := envX "_parse" (fnData w.params 85).scope L 85 (.ref 84) []
section
variable {w : World} {A : Around} {E : Value → Shared → Prop} {s : Shared} {g : Heap} {L it : Addr} {m : Str → Option Value} {p j i : Int} {r y : Str} {ti tj : Tok} {news : List (Addr × Obj)} {rst : List Stmt} {Q : Flow → Shared → Prop}
/-- `if i in (3, 4) and j in (3, 4): result = '(%s)' % result` -/
theorem par_if (F : Fr g L s.heap m) (N : News g L s.heap news) (V : PL m it p r y) (hi : m "i" = some (.int i ti)) (hj : m "j" = some (.int j tj)) (hz : r.length ≤ 4000)
    (h : ∀ h' m' tk', Fr g L h' m' → News g L h' news → PL m' it p (br i j r) y → m' "i" = some (.int i ti) → wpAny (model PG w) A (execs rst (pEnv w L)) Q E { s with heap := h', toks := tk' }) :
    wpAny (model PG w) A (execs (pStm w.params 2 :: rst) (pEnv w L)) Q E s := by
  obtain ⟨tr, hr⟩ := V.res
  refine st_if ?_
  refine isTrue_and ?_
  refine wpAny_isTrue_Compare1 ?_
  refine nameX_L F hi ?_
  refine Tuple_ ?_
  refine sp_more nofun ?_
  refine cint ?_
  intro _ _
  refine sp_more nofun ?_
  refine cint ?_
  intro _ _
  refine sp_nil ?_
  refine kup_newTuple F N ?_ (by show 2 ≤ sizeLine; decide)
  intro l1 h1 F N lt1
  refine in_tuple_ints (ns := [3, 4]) (News.isTup N (.head _)) (.cons _ _ (.cons _ _ .nil)) ?_
  refine (Bool.eq_false_or_eq_true (List.any [3, 4] (· == i))).elim (fun hb => ?_) (fun hb => ?_)
  · refine truthyT hb ?_
    refine ite_tt ?_
    refine isTrue_and ?_
    refine wpAny_isTrue_Compare1 ?_
    refine nameX_L F hj ?_
    refine Tuple_ ?_
    refine sp_more nofun ?_
    refine cint ?_
    intro _ _
    refine sp_more nofun ?_
    refine cint ?_
    intro _ _
    refine sp_nil ?_
    refine kup_newTuple F N ?_ (by show 2 ≤ sizeLine; decide)
    intro l2 h2 F N lt2
    refine in_tuple_ints (ns := [3, 4]) (News.isTup N (.head _)) (.cons _ _ (.cons _ _ .nil)) ?_
    replace N := news_tail (news_tail N)
    have hb' : cmp i := any34.mp hb
    refine (Bool.eq_false_or_eq_true (List.any [3, 4] (· == j))).elim (fun hv => ?_) (fun hv => ?_)
    · refine truthyT hv ?_
      refine ite_tt ?_
      refine isTrue_and_nil ?_
      have hv' : cmp j := any34.mp hv
      have ebr : br i j r = par r := if_pos ⟨hb', hv'⟩
      refine st_asg ?_
      refine wpAny_BinOp ?_
      refine cstr ?_
      intro _ _
      refine nameX_L F hr ?_
      refine mod_par (by omega) ?_
      intro tr' _
      refine stL F N ?_
      intro h' m' tk' e k F N
      refine st_nil ?_
      refine then_next ?_
      refine h h' m' tk' F N (V.setRes (r' := br i j r) (t := tr') ?_ k) ((k _ (by decide +kernel)).trans hi)
      rw [e, ebr]
    · refine truthyF hv ?_
      refine ite_ff ?_
      have hv' : ¬ cmp j := fun q => Bool.noConfusion (hv.symm.trans (any34.mpr q))
      have ebr : br i j r = r := if_neg fun q => hv' q.2
      refine st_nil ?_
      refine then_next ?_
      exact h _ m _ F N (ebr.symm ▸ V) hi
  · refine truthyF hb ?_
    refine ite_ff ?_
    replace N := news_tail N
    have hb' : ¬ cmp i := fun q => Bool.noConfusion (hb.symm.trans (any34.mpr q))
    have ebr : br i j r = r := if_neg fun q => hb' q.1
    refine st_nil ?_
    refine then_next ?_
    exact h _ m _ F N (ebr.symm ▸ V) hi
end

theorem Loops.len {p : Int} {r : Str} {j : Int} {y : Str} {ts : List Str} {r' : Str} {j' : Int} {y' : Str} {ts' : List Str} (Lp : Loops p r j y ts r' j' y' ts') : r'.length ≤ 4000 := by
  induction Lp with
  | stop _ _ h => exact h
  | step _ _ _ _ _ _ ih => exact ih
section
variable {M : Model} {A : Around} {E : Value → Shared → Prop} {s : Shared} {env : Env}
theorem st_brk {pos : Pos} {rest : List Stmt} {Q : Flow → Shared → Prop} (h : Q .brk s) : wpAny M A (execs (.Break pos :: rest) env) Q E s := wpAny_execs_cons (wpAny_Break h)
end
section
variable {prog : Program} {w : World} {A : Around} {E : Value → Shared → Prop} {s : Shared} {Q : Value → Shared → Prop}
theorem ltI {a b : Int} {t u : Tok} {c : Bool} (hc : decide (a < b) = c) (h : Q (.bool c) s) : wpAny (model prog w) A (compareOp .Lt (.int a t) (.int b u)) Q E s := PyProof.Rows.lt_int (hc ▸ h)
end

/-- what a call of _parse does -/
def PCtr (w : World) (mean : ExcName → Option Value) (mg mb : Str → Option Value) (toks : List Str) (ts0 : List Str) (p : Int) (R Y : Str) (ts' : List Str) : Prop :=
  ∀ (it lt : Addr) (vt : List Value) (nt i : Nat) (io : Obj) (rest : List (Addr × Obj)) (tp : Tok) (dp un : Nat) (gd : Option (List Code)) (cn : Str) (cs : Scope) (a : Addr) (ccd : Value) (cl : List (Str × Addr)) (outer : List Env) (A₀ : Around) (base h₀ : Heap) (L : Addr) (m : Str → Option Value) (s : Shared) (Q E : Value → Shared → Prop),
    Below A₀ base outer h₀ → Cx w mean mg mb h₀ → cs.kind = .function → dp + (9 - p).toNat < recursionLimit → un + 8 * (9 - p).toNat < cLine → Fr h₀ L s.heap m → News h₀ L s.heap ((it, io) :: rest) →
    (∀ q ∈ rest, q.1 ≠ it) → ItAt io lt i → (lt, W.listOf vt.toArray nt) ∈ rest → StrsAre vt toks → toks.drop i = ts0 →
    (∀ b tt ty io' i' h' tk', ItAt io' lt i' → toks.drop i' = ts' → Fr h₀ L h' m → News h₀ L h' ((b, tupOf [.str R tt, .str Y ty]) :: (it, io') :: rest) → Q (.ref b) { s with heap := h', toks := tk' }) →
    wpAny (model PG w) (ktrTop dp un gd cn cs L a ccd cl outer) (call (.ref 85) [.ref it, .int p tp]) Q E s
/-- what the loop of _parse does -/
def LSpec (w : World) (mean : ExcName → Option Value) (mg mb : Str → Option Value) (toks : List Str) (p : Int) (r : Str) (j : Int) (y : Str) (ts : List Str) (r' : Str) (j' : Int) (y' : Str) (ts' : List Str) : Prop :=
  ∀ (it lt : Addr) (vt : List Value) (nt i k : Nat) (io : Obj) (rest : List (Addr × Obj)) (dp un : Nat) (gd : Option (List Code)) (outer : List Env) (A₀ : Around) (base g : Heap) (L : Addr) (m : Str → Option Value) (s : Shared) (Q : Flow → Shared → Prop),
    Below A₀ base outer g → Cx w mean mg mb g → dp + (8 - p).toNat < recursionLimit → un + 8 * (8 - p).toNat < cLine → Fr g L s.heap m → News g L s.heap ((it, io) :: rest) →
    (∀ q ∈ rest, q.1 ≠ it) → ItAt io lt i → (lt, W.listOf vt.toArray nt) ∈ rest → StrsAre vt toks → toks.drop i = ts → PL m it p r y → (∃ t, m "j" = some (.int j t)) →
    (∀ m' io' i' h' tk', PL m' it p r' y' → (∃ t, m' "j" = some (.int j' t)) → ItAt io' lt i' → toks.drop i' = ts' → Fr g L h' m' → News g L h' ((it, io') :: rest) → Q .next { s with heap := h', toks := tk' }) →
    WhlRest PG w (ktrTop dp un gd "_parse" (fnData w.params 85).scope L 85 (.ref 84) [] outer) NoE (pEnv w L) (wTest (pWhl w.params)) (wBody (pWhl w.params)) [] Q k s
theorem loop_stop {w : World} {mean : ExcName → Option Value} {mg mb : Str → Option Value} {toks : List Str} {p : Int} {r : Str} {j : Int} {y : Str} {ts : List Str} (hy : IsOp y → rk y < p) : LSpec w mean mg mb toks p r j y ts r j y ts := by
  intro it lt vt nt i k io rest dp un gd outer A₀ base g L m s Q B C hd hu F N hne hit ml st hdr V hj ret
  obtain ⟨ty, hny⟩ := V.nxt
  obtain ⟨tp, hnp⟩ := V.pri
  obtain ⟨tj, hnj⟩ := hj
  have X := C.X
  have T := C.T
  refine whl_turn (k := k) noE_passes ?_
  refine wpAny_isTrue_Compare1 ?_
  refine nameX_L F hny ?_
  refine nameX_K F X (topRead_of T) (by rfl) ?_
  by_cases hop : IsOp y
  · refine in_ops F X hop ?_
    intro _
    refine truthyT rfl ?_
    refine WhlIf.yes rfl ?_
    refine st_asg ?_
    refine Subscript_ ?_
    refine nameX_K F X (topRead_of T) (by rfl) ?_
    refine nameX_L F hny ?_
    refine get_ops F X hop ?_
    intro ti _
    refine stL F N ?_
    intro h1 m1 tk1 hi k1 F N
    refine st_if ?_
    refine wpAny_isTrue_Compare1 ?_
    refine nameX_L F hi ?_
    refine nameX_L F ((k1 _ (by decide +kernel)).trans hnp) ?_
    refine ltI (decide_eq_true (hy hop)) ?_
    refine truthyT rfl ?_
    refine st_brk ?_
    refine then_brk ?_
    refine ret m1 io i h1 tk1 (V.keep k1 (by decide +kernel) (by decide +kernel) (by decide +kernel) (by decide +kernel)) ⟨tj, (k1 _ (by decide +kernel)).trans hnj⟩ hit hdr F N
  · refine notin_ops F X hop ?_
    intro tk1
    refine truthyF rfl ?_
    refine WhlIf.no rfl ?_
    refine st_nil ?_
    exact ret m io i _ _ V ⟨tj, hnj⟩ hit hdr F N
end Mine
end
section
open PySem PySem.W PyProof.Rows
set_option Elab.async false
set_option maxRecDepth 100000
set_option maxHeartbeats 4000000
namespace Mine
theorem loop_step {w : World} {mean : ExcName → Option Value} {mg mb : Str → Option Value} {toks : List Str} {p : Int} {r : Str} {j : Int} {y : Str} {ts : List Str} {R z : Str} {ts2 : List Str} {r' : Str} {j' : Int} {y' : Str} {ts' : List Str}
    (hop : IsOp y) (hle : p ≤ rk y) (hz : r.length ≤ 4000) (hzr : R.length ≤ 5000) (inner : PCtr w mean mg mb toks ts (rk y + 1) R z ts2) (next : LSpec w mean mg mb toks p (glue (br (rk y) j r) y R) (rk y) z ts2 r' j' y' ts') :
    LSpec w mean mg mb toks p r j y ts r' j' y' ts' := by
  intro it lt vt nt i k io rest dp un gd outer A₀ base g L m s Q B C hd hu F N hne hit ml st hdr V hj ret
  obtain ⟨ty, hny⟩ := V.nxt
  obtain ⟨tp, hnp⟩ := V.pri
  obtain ⟨tj, hnj⟩ := hj
  have X := C.X
  have T := C.T
  have hr6 := rk_bounds hop
  have hbr := br_len (rk y) j r
  have hpy := py_len hop
  have hsp : (PySem.Str.ofString " ").length = 1 := by decide +kernel
  refine whl_turn (k := k) noE_passes ?_
  refine wpAny_isTrue_Compare1 ?_
  refine nameX_L F hny ?_
  refine nameX_K F X (topRead_of T) (by rfl) ?_
  refine in_ops F X hop ?_
  intro _
  refine truthyT rfl ?_
  refine WhlIf.yes rfl ?_
  -- i = _binary_ops[nexttok]
  refine st_asg ?_
  refine Subscript_ ?_
  refine nameX_K F X (topRead_of T) (by rfl) ?_
  refine nameX_L F hny ?_
  refine get_ops F X hop ?_
  intro ti _
  refine stL F N ?_
  intro h1 m1 tk1 hi k1 F N
  replace V := V.keep k1 (by decide +kernel) (by decide +kernel) (by decide +kernel) (by decide +kernel)
  replace hnj := (k1 _ (by decide +kernel)).trans hnj
  replace hnp := (k1 _ (by decide +kernel)).trans hnp
  replace hny := (k1 _ (by decide +kernel)).trans hny
  clear k1
  -- if i < priority: break
  refine st_if ?_
  refine wpAny_isTrue_Compare1 ?_
  refine nameX_L F hi ?_
  refine nameX_L F hnp ?_
  refine ltI (decide_eq_false (by omega)) ?_
  refine truthyF rfl ?_
  refine st_nil ?_
  refine then_next ?_
  -- if i in (3, 4) and j in (3, 4)
  refine par_if F N V hi hnj hz ?_
  clear F N V hny hnj hnp hi
  intro h2 m2 tk2 F N V hi
  obtain ⟨ty2, hny⟩ := V.nxt
  -- op = _c2py_ops.get(nexttok, nexttok)
  refine st_asg ?_
  refine MethodCall_ ?_
  refine nameX_K F X (topRead_of T) (by rfl) ?_
  refine c2py_method F X ?_
  refine callWith_method1 ?_
  refine sp_more nofun ?_
  refine nameX_L F hny ?_
  refine sp_more nofun ?_
  refine nameX_L F hny ?_
  refine sp_nil ?_
  refine c2py_get F X ?_
  intro top _
  refine stL F N ?_
  intro h3 m3 tk3 hopv k3 F N
  replace V := V.keep k3 (by decide +kernel) (by decide +kernel) (by decide +kernel) (by decide +kernel)
  replace hi := (k3 _ (by decide +kernel)).trans hi
  clear k3
  -- right, nexttok = _parse(tokens, i + 1)
  refine st_cons ?_
  refine Assign_Tuple ?_
  refine Call_ ?_
  refine nameX_K F X (topRead_of T) (by rfl) ?_
  refine cw_ref X (by rfl) ?_
  refine sp_more nofun ?_
  refine nameX_L F V.tok ?_
  refine sp_more nofun ?_
  refine wpAny_BinOp ?_
  refine nameX_L F hi ?_
  refine cint ?_
  intro _ _
  refine addI ?_
  intro tq _
  refine sp_nil ?_
  refine ⟨F.keep, ?_⟩
  refine inner it lt vt nt i io rest tq _ _ _ _ _ _ _ _ _ _ _ _ _ _ _ _ _ B C rfl ?_ ?_ F N hne hit ml st hdr ?_
  · omega
  · omega
  clear N hit hdr
  intro b tt tz io i h4 tk4 hit hdr F N
  refine unpackN_ F N (News.isTup N (.head _)) rfl rfl rfl ?_
  intro h5 F N
  replace N := news_tail N
  refine assignInOrder_cons ?_
  refine wpAny_assign_Name ?_
  refine stL F N ?_
  intro h6 m6 tk6 hright k6 F N
  replace V := V.keep k6 (by decide +kernel) (by decide +kernel) (by decide +kernel) (by decide +kernel)
  replace hi := (k6 _ (by decide +kernel)).trans hi
  replace hopv := (k6 _ (by decide +kernel)).trans hopv
  clear k6
  refine assignInOrder_cons ?_
  refine wpAny_assign_Name ?_
  refine stL F N ?_
  intro h7 m7 tk7 hz7 k7 F N
  replace V := V.setNxt hz7 k7
  replace hi := (k7 _ (by decide +kernel)).trans hi
  replace hopv := (k7 _ (by decide +kernel)).trans hopv
  replace hright := (k7 _ (by decide +kernel)).trans hright
  clear k7 hz7
  refine assignInOrder_nil ?_
  refine then_next ?_
  obtain ⟨tr, hres⟩ := V.res
  -- result = '%s %s %s' % (result, op, right)
  refine st_asg ?_
  refine JoinedStr_many ?_
  refine jp_n F hres ?_ ?_
  · rw [Str.empty_append]; omega
  intro _
  refine jp_c ?_ ?_
  · rw [Str.empty_append, Str.length_append, hsp]; omega
  intro _
  refine jp_n F hopv ?_ ?_
  · rw [Str.empty_append, Str.length_append, Str.length_append, hsp]; omega
  intro _
  refine jp_c ?_ ?_
  · rw [Str.empty_append, Str.length_append, Str.length_append, Str.length_append, hsp]; omega
  intro _
  refine jp_n F hright ?_ ?_
  · rw [Str.empty_append, Str.length_append, Str.length_append, Str.length_append, Str.length_append, hsp]; omega
  intro _
  refine jp_end ?_ ?_
  · rw [Str.empty_append, Str.length_append, Str.length_append, Str.length_append, Str.length_append, hsp]; omega
  intro tr8 _
  refine stL F N ?_
  intro h8 m8 tk8 hr8 k8 F N
  replace V := V.setRes (r' := glue (br (rk y) j r) y R) (t := tr8) (by rw [hr8, Str.empty_append]; rfl) k8
  replace hi := (k8 _ (by decide +kernel)).trans hi
  clear k8 hr8
  -- j = i
  refine st_asg ?_
  refine nameX_L F hi ?_
  refine stL F N ?_
  intro h9 m9 tk9 hj9 k9 F N
  replace V := V.keep k9 (by decide +kernel) (by decide +kernel) (by decide +kernel) (by decide +kernel)
  refine st_nil ?_
  exact next it lt vt nt i k io rest dp un gd outer A₀ base g L m9 _ Q B C hd hu F N hne hit ml st hdr V ⟨_, hj9⟩ ret
end Mine
end
section
open PySem PySem.W PyProof.Rows
set_option Elab.async false
set_option maxRecDepth 100000
set_option maxHeartbeats 4000000
namespace Mine
theorem drop_get {α : Type} {l r : List α} {i : Nat} {x : α} (h : l.drop i = x :: r) : l[i]? = some x ∧ l.drop (i + 1) = r := by
  have e : (l.drop i)[0]? = some x := by rw [h]; rfl
  rw [List.getElem?_drop, Nat.add_zero] at e
  exact ⟨e, by rw [← List.drop_drop, h]; rfl⟩
section
variable {M : Model} {A : Around} {E : Value → Shared → Prop} {s : Shared} {env : Env}
theorem st_aug {x : Str} {pos' pos : Pos} {op : Operator} {value : Expr} {rest : List Stmt} {Q : Flow → Shared → Prop}
    (h : wpAny M A (loadName env x) (fun old s₁ => wpAny M A (eval value env) (fun v s₂ => wpAny M A (inplaceOp op old v) (fun r s₃ => wpAny M A (storeName env x r) (fun _ s₄ => wpAny M A (execs rest env) Q E s₄) E s₃) E s₂) E s₁) E s) :
    wpAny M A (execs (.AugAssign (.Name x pos') op value pos :: rest) env) Q E s := wpAny_execs_cons (wpAny_AugAssign_Name h)
theorem st_try {prog : Program} {w : World} {body orelse rest : List Stmt} {h₀ : ExceptHandler} {hs : List ExceptHandler} {pos : Pos} {Q : Flow → Shared → Prop}
    (h : wpAny (model prog w) A (execs body env) (Then (model prog w) A E env orelse (Then (model prog w) A E env rest Q)) (fun _ _ => False) s) : wpAny (model prog w) A (execs (.Try body (h₀ :: hs) orelse [] pos :: rest) env) Q E s :=
  st_cons (wpAny_Try_except (wpAny_mono h (fun _ _ x => x) fun _ _ x => x.elim))
theorem ldX {h₀ : Heap} {L a : Addr} {m : Str → Option Value} {cn : Str} {cs : Scope} {ccd : Value} {cl : List (Str × Addr)} {x : Str} {v : Value} {Q : Value → Shared → Prop} (F : Fr h₀ L s.heap m) (hv : m x = some v) (h : Q v s)
    (hk : cs.kind = .function := by rfl) (hx : (envX cn cs L a ccd cl).kindOf x = some .local := by rfl) : wpAny M A (loadName (envX cn cs L a ccd cl) x) Q E s := wpAny_loadName_local hk hx F.ns hv h
end
section
variable {w : World} {mean : ExcName → Option Value} {mg mb : Str → Option Value} {toks : List Str} {it lt : Addr} {vt : List Value} {nt : Nat} {rest : List (Addr × Obj)} {A A₀ : Around} {base g : Heap} {outer : List Env} {L : Addr} {Q : Flow → Shared → Prop}
/-- `nexttok = next(tokens)` -/
theorem st_next {s : Shared} {m : Str → Option Value} {i : Nat} {io : Obj} {x : Str} {ts : List Str} {rs : List Stmt} {p1 p2 p3 p4 p5 : Pos} {E : Value → Shared → Prop} (X : (KF w).In g) (T : Top hd.view_39 LO mean mg mb g) (F : Fr g L s.heap m) (N : News g L s.heap ((it, io) :: rest)) (hne : ∀ q ∈ rest, q.1 ≠ it) (hit : ItAt io lt i) (ml : (lt, W.listOf vt.toArray nt) ∈ rest) (st : StrsAre vt toks)
    (hdr : toks.drop i = x :: ts) (hm : m "tokens" = some (.ref it))
    (h : ∀ h' m' tk' io' t, ItAt io' lt (i + 1) → toks.drop (i + 1) = ts → m' "nexttok" = some (.str x t) → (∀ z, z ≠ Str.ofString "nexttok" → m' z = m z) → Fr g L h' m' → News g L h' ((it, io') :: rest) → wpAny (model PG w) A (execs rs (pEnv w L)) Q E { s with heap := h', toks := tk' }) :
    wpAny (model PG w) A (execs (.Assign [.Name (Str.ofString "nexttok") p1] (.Call (.Name (Str.ofString "next") p2) [.Name (Str.ofString "tokens") p3] [] p4) p5 :: rs) (pEnv w L)) Q E s := by
  obtain ⟨e1, e2⟩ := drop_get hdr
  obtain ⟨t, ev⟩ := strs_get st e1
  refine st_asg ?_
  refine Call_ ?_
  refine nameX_B F X (topRead_of T) (by rfl) (by boot_by_name) (by decide) ?_
  refine PyProof.Rows.callWith_builtin1 ?_
  refine sp_more nofun ?_
  refine nameX_L F hm ?_
  refine sp_nil ?_
  refine nextL F N hne hit ml ev ?_
  intro h1 io1 hit1 F N
  refine stL F N ?_
  intro h2 m2 tk2 e k F N
  exact h h2 m2 tk2 io1 t hit1 e2 e k F N
/-- behind the operand: `nexttok = next(tokens)`, `j = 100` -/
theorem pro_end {s : Shared} {m : Str → Option Value} {i : Nat} {io : Obj} {y : Str} {ts : List Str} {p : Int} {tp tr : Tok} {r : Str} (X : (KF w).In g) (T : Top hd.view_39 LO mean mg mb g) (F : Fr g L s.heap m) (N : News g L s.heap ((it, io) :: rest)) (hne : ∀ q ∈ rest, q.1 ≠ it) (hit : ItAt io lt i) (ml : (lt, W.listOf vt.toArray nt) ∈ rest) (st : StrsAre vt toks)
    (hdr : toks.drop i = y :: ts) (hm : m "tokens" = some (.ref it)) (hp : m "priority" = some (.int p tp)) (hr : m "result" = some (.str r tr))
    (h : ∀ h' m' tk' io' i', ItAt io' lt i' → toks.drop i' = ts → PL m' it p r y → (∃ t, m' "j" = some (.int 100 t)) → Fr g L h' m' → News g L h' ((it, io') :: rest) → wpAny (model PG w) A (execs ((fnBody w.params 85).drop 6) (pEnv w L)) Q NoE { s with heap := h', toks := tk' }) :
    wpAny (model PG w) A (execs ((fnBody w.params 85).drop 4) (pEnv w L)) Q NoE s := by
  refine st_next X T F N hne hit ml st hdr hm ?_
  intro h1 m1 tk1 io1 ty hit1 hdr1 hy k1 F N
  refine st_asg ?_
  refine cint ?_
  intro tj _
  refine stL F N ?_
  intro h2 m2 tk2 hj k2 F N
  exact h h2 m2 tk2 io1 (i + 1) hit1 hdr1 ⟨(k2 _ (by decide +kernel)).trans ((k1 _ (by decide +kernel)).trans hm), ⟨tp, (k2 _ (by decide +kernel)).trans ((k1 _ (by decide +kernel)).trans hp)⟩, ⟨tr, (k2 _ (by decide +kernel)).trans ((k1 _ (by decide +kernel)).trans hr)⟩, ⟨ty, (k2 _ (by decide +kernel)).trans hy⟩⟩ ⟨tj, hj⟩ F N
theorem parse_pro {s : Shared} {m : Str → Option Value} {i : Nat} {io : Obj} {y : Str} {ts : List Str} {p : Int} {tp : Tok} (o : Opd) (X : (KF w).In g) (T : Top hd.view_39 LO mean mg mb g) (F : Fr g L s.heap m) (N : News g L s.heap ((it, io) :: rest)) (hne : ∀ q ∈ rest, q.1 ≠ it) (hit : ItAt io lt i) (ml : (lt, W.listOf vt.toArray nt) ∈ rest) (st : StrsAre vt toks)
    (hdr : toks.drop i = o.toks ++ y :: ts) (hm : m "tokens" = some (.ref it)) (hp : m "priority" = some (.int p tp))
    (h : ∀ h' m' tk' io' i', ItAt io' lt i' → toks.drop i' = ts → PL m' it p o.text y → (∃ t, m' "j" = some (.int 100 t)) → Fr g L h' m' → News g L h' ((it, io') :: rest) → wpAny (model PG w) A (execs ((fnBody w.params 85).drop 6) (pEnv w L)) Q NoE { s with heap := h', toks := tk' }) :
    wpAny (model PG w) A (execs (fnBody w.params 85) (pEnv w L)) Q NoE s := by
  refine st_asg ?_
  refine cstr ?_
  intro tr0 _
  refine stL F N ?_
  intro h1 m1 tk1 hr k1 F N
  replace hm := (k1 _ (by decide +kernel)).trans hm
  replace hp := (k1 _ (by decide +kernel)).trans hp
  clear k1
  cases o with
  | n =>
    refine st_next X T F N hne hit ml st (x := "n") hdr hm ?_
    clear hit hdr N
    intro h2 m2 tk2 io ty hit hdr hy k2 F N
    replace hm := (k2 _ (by decide +kernel)).trans hm
    replace hp := (k2 _ (by decide +kernel)).trans hp
    replace hr := (k2 _ (by decide +kernel)).trans hr
    clear k2
    refine st_cons ?_
    refine whl_start 1 ?_
    refine whl_turn (k := 0) noE_passes ?_
    refine wpAny_isTrue_Compare1 ?_
    refine nameX_L F hy ?_
    refine cstr ?_
    intro _ _
    refine eqS (r := false) (by decide +kernel) ?_
    refine truthyF rfl ?_
    refine WhlIf.no rfl ?_
    refine st_nil ?_
    refine then_next ?_
    refine st_if ?_
    refine wpAny_isTrue_Compare1 ?_
    refine nameX_L F hy ?_
    refine cstr ?_
    intro _ _
    refine eqS (r := false) (by decide +kernel) ?_
    refine truthyF rfl ?_
    refine st_if ?_
    refine wpAny_isTrue_Compare1 ?_
    refine nameX_L F hy ?_
    refine cstr ?_
    intro _ _
    refine eqS (r := true) (by decide +kernel) ?_
    refine truthyT rfl ?_
    refine st_asg ?_
    refine JoinedStr_many ?_
    refine jp_n F hr ?_ ?_
    · decide +kernel
    intro _
    refine jp_n F hy ?_ ?_
    · decide +kernel
    intro _
    refine jp_end ?_ ?_
    · decide +kernel
    intro tr3 _
    refine stL F N ?_
    intro h3 m3 tk3 hr3 k3 F N
    refine st_nil ?_
    refine then_next ?_
    refine st_nil ?_
    refine then_next ?_
    refine pro_end X T F N hne hit ml st hdr ((k3 _ (by decide +kernel)).trans hm) ((k3 _ (by decide +kernel)).trans hp) (r := Opd.text .n) (tr := tr3) (by rw [hr3]; exact congrArg (fun x => some (Value.str x tr3)) (by decide +kernel)) ?_
    intro h4 m4 tk4 io4 i4 hit4 hdr4 V4 j4 F N
    exact h h4 m4 tk4 io4 i4 hit4 hdr4 V4 j4 F N
  | four =>
    refine st_next X T F N hne hit ml st (x := "4") hdr hm ?_
    clear hit hdr N
    intro h2 m2 tk2 io ty hit hdr hy k2 F N
    replace hm := (k2 _ (by decide +kernel)).trans hm
    replace hp := (k2 _ (by decide +kernel)).trans hp
    replace hr := (k2 _ (by decide +kernel)).trans hr
    clear k2
    refine st_cons ?_
    refine whl_start 1 ?_
    refine whl_turn (k := 0) noE_passes ?_
    refine wpAny_isTrue_Compare1 ?_
    refine nameX_L F hy ?_
    refine cstr ?_
    intro _ _
    refine eqS (r := false) (by decide +kernel) ?_
    refine truthyF rfl ?_
    refine WhlIf.no rfl ?_
    refine st_nil ?_
    refine then_next ?_
    refine st_if ?_
    refine wpAny_isTrue_Compare1 ?_
    refine nameX_L F hy ?_
    refine cstr ?_
    intro _ _
    refine eqS (r := false) (by decide +kernel) ?_
    refine truthyF rfl ?_
    refine st_if ?_
    refine wpAny_isTrue_Compare1 ?_
    refine nameX_L F hy ?_
    refine cstr ?_
    intro _ _
    refine eqS (r := false) (by decide +kernel) ?_
    refine truthyF rfl ?_
    refine st_try ?_
    refine st_asg ?_
    refine Call_ ?_
    refine nameX_B F X (topRead_of T) (by rfl) (by boot_by_name) (by decide) ?_
    refine PyProof.Rows.callWith_type1 ?_
    refine sp_more nofun ?_
    refine nameX_L F hy ?_
    refine sp_more nofun ?_
    refine cint ?_
    intro _ _
    refine sp_nil ?_
    refine int4 ?_
    intro tv _
    refine stL F N ?_
    intro h3 m3 tk3 hv k3 F N
    replace hm := (k3 _ (by decide +kernel)).trans hm
    replace hp := (k3 _ (by decide +kernel)).trans hp
    replace hr := (k3 _ (by decide +kernel)).trans hr
    clear k3
    refine st_nil ?_
    refine then_next ?_
    refine st_nil ?_
    refine then_next ?_
    refine st_asg ?_
    refine wpAny_BinOp ?_
    refine cstr ?_
    intro _ _
    refine Tuple_ ?_
    refine sp_more nofun ?_
    refine nameX_L F hr ?_
    refine sp_more nofun ?_
    refine nameX_L F hv ?_
    refine sp_nil ?_
    refine kup_newTuple F N ?_ (by show 2 ≤ sizeLine; decide)
    intro D h4 F N ltD
    refine mod_sd4 N (.head _) ?_
    intro tr5 _
    replace N := news_tail N
    refine stL F N ?_
    intro h5 m5 tk5 hr5 k5 F N
    refine st_nil ?_
    refine then_next ?_
    refine st_nil ?_
    refine then_next ?_
    refine pro_end X T F N hne hit ml st hdr ((k5 _ (by decide +kernel)).trans hm) ((k5 _ (by decide +kernel)).trans hp) (r := Opd.text .four) (tr := tr5) hr5 ?_
    intro h6 m6 tk6 io6 i6 hit6 hdr6 V6 j6 F N
    exact h h6 m6 tk6 io6 i6 hit6 hdr6 V6 j6 F N
  | sept =>
    refine st_next X T F N hne hit ml st (x := "017") hdr hm ?_
    clear hit hdr N
    intro h2 m2 tk2 io ty hit hdr hy k2 F N
    replace hm := (k2 _ (by decide +kernel)).trans hm
    replace hp := (k2 _ (by decide +kernel)).trans hp
    replace hr := (k2 _ (by decide +kernel)).trans hr
    clear k2
    refine st_cons ?_
    refine whl_start 1 ?_
    refine whl_turn (k := 0) noE_passes ?_
    refine wpAny_isTrue_Compare1 ?_
    refine nameX_L F hy ?_
    refine cstr ?_
    intro _ _
    refine eqS (r := false) (by decide +kernel) ?_
    refine truthyF rfl ?_
    refine WhlIf.no rfl ?_
    refine st_nil ?_
    refine then_next ?_
    refine st_if ?_
    refine wpAny_isTrue_Compare1 ?_
    refine nameX_L F hy ?_
    refine cstr ?_
    intro _ _
    refine eqS (r := false) (by decide +kernel) ?_
    refine truthyF rfl ?_
    refine st_if ?_
    refine wpAny_isTrue_Compare1 ?_
    refine nameX_L F hy ?_
    refine cstr ?_
    intro _ _
    refine eqS (r := false) (by decide +kernel) ?_
    refine truthyF rfl ?_
    refine st_try ?_
    refine st_asg ?_
    refine Call_ ?_
    refine nameX_B F X (topRead_of T) (by rfl) (by boot_by_name) (by decide) ?_
    refine PyProof.Rows.callWith_type1 ?_
    refine sp_more nofun ?_
    refine nameX_L F hy ?_
    refine sp_more nofun ?_
    refine cint ?_
    intro _ _
    refine sp_nil ?_
    refine int17 ?_
    intro tv _
    refine stL F N ?_
    intro h3 m3 tk3 hv k3 F N
    replace hm := (k3 _ (by decide +kernel)).trans hm
    replace hp := (k3 _ (by decide +kernel)).trans hp
    replace hr := (k3 _ (by decide +kernel)).trans hr
    clear k3
    refine st_nil ?_
    refine then_next ?_
    refine st_nil ?_
    refine then_next ?_
    refine st_asg ?_
    refine wpAny_BinOp ?_
    refine cstr ?_
    intro _ _
    refine Tuple_ ?_
    refine sp_more nofun ?_
    refine nameX_L F hr ?_
    refine sp_more nofun ?_
    refine nameX_L F hv ?_
    refine sp_nil ?_
    refine kup_newTuple F N ?_ (by show 2 ≤ sizeLine; decide)
    intro D h4 F N ltD
    refine mod_sd17 N (.head _) ?_
    intro tr5 _
    replace N := news_tail N
    refine stL F N ?_
    intro h5 m5 tk5 hr5 k5 F N
    refine st_nil ?_
    refine then_next ?_
    refine st_nil ?_
    refine then_next ?_
    refine pro_end X T F N hne hit ml st hdr ((k5 _ (by decide +kernel)).trans hm) ((k5 _ (by decide +kernel)).trans hp) (r := Opd.text .sept) (tr := tr5) hr5 ?_
    intro h6 m6 tk6 io6 i6 hit6 hdr6 V6 j6 F N
    exact h h6 m6 tk6 io6 i6 hit6 hdr6 V6 j6 F N
  | bang =>
    refine st_next X T F N hne hit ml st (x := "!") hdr hm ?_
    clear hit hdr N
    intro h2 m2 tk2 io ty hit hdr hy k2 F N
    replace hm := (k2 _ (by decide +kernel)).trans hm
    replace hp := (k2 _ (by decide +kernel)).trans hp
    replace hr := (k2 _ (by decide +kernel)).trans hr
    clear k2
    refine st_cons ?_
    refine whl_start 2 ?_
    refine whl_turn (k := 1) noE_passes ?_
    refine wpAny_isTrue_Compare1 ?_
    refine nameX_L F hy ?_
    refine cstr ?_
    intro _ _
    refine eqS (r := true) (by decide +kernel) ?_
    refine truthyT rfl ?_
    refine WhlIf.yes rfl ?_
    refine st_aug ?_
    refine ldX F hr ?_
    refine cstr ?_
    intro _ _
    refine PyProof.Rows.iadd_str ?_ (by decide +kernel)
    intro tr2 _
    refine stL F N ?_
    clear hr
    intro h2b m2b tk2b hr k2b F N
    replace hm := (k2b _ (by decide +kernel)).trans hm
    replace hp := (k2b _ (by decide +kernel)).trans hp
    clear k2b hy
    refine st_next X T F N hne hit ml st (x := "n") hdr hm ?_
    clear hit hdr N
    intro h2c m2c tk2c io ty hit hdr hy k2 F N
    replace hm := (k2 _ (by decide +kernel)).trans hm
    replace hp := (k2 _ (by decide +kernel)).trans hp
    replace hr := (k2 _ (by decide +kernel)).trans hr
    clear k2
    refine st_nil ?_
    refine whl_turn (k := 0) noE_passes ?_
    refine wpAny_isTrue_Compare1 ?_
    refine nameX_L F hy ?_
    refine cstr ?_
    intro _ _
    refine eqS (r := false) (by decide +kernel) ?_
    refine truthyF rfl ?_
    refine WhlIf.no rfl ?_
    refine st_nil ?_
    refine then_next ?_
    refine st_if ?_
    refine wpAny_isTrue_Compare1 ?_
    refine nameX_L F hy ?_
    refine cstr ?_
    intro _ _
    refine eqS (r := false) (by decide +kernel) ?_
    refine truthyF rfl ?_
    refine st_if ?_
    refine wpAny_isTrue_Compare1 ?_
    refine nameX_L F hy ?_
    refine cstr ?_
    intro _ _
    refine eqS (r := true) (by decide +kernel) ?_
    refine truthyT rfl ?_
    refine st_asg ?_
    refine JoinedStr_many ?_
    refine jp_n F hr ?_ ?_
    · decide +kernel
    intro _
    refine jp_n F hy ?_ ?_
    · decide +kernel
    intro _
    refine jp_end ?_ ?_
    · decide +kernel
    intro tr3 _
    refine stL F N ?_
    intro h3 m3 tk3 hr3 k3 F N
    refine st_nil ?_
    refine then_next ?_
    refine st_nil ?_
    refine then_next ?_
    refine pro_end X T F N hne hit ml st hdr ((k3 _ (by decide +kernel)).trans hm) ((k3 _ (by decide +kernel)).trans hp) (r := Opd.text .bang) (tr := tr3) (by rw [hr3]; exact congrArg (fun x => some (Value.str x tr3)) (by decide +kernel)) ?_
    intro h4 m4 tk4 io4 i4 hit4 hdr4 V4 j4 F N
    exact h h4 m4 tk4 io4 i4 hit4 hdr4 V4 j4 F N
end
end Mine
end
section
open PySem PySem.W PyProof.Rows
set_option Elab.async false
set_option maxRecDepth 100000
set_option maxHeartbeats 4000000
namespace Mine
section
variable {prog : Program} {w : World} {A : Around} {E : Value → Shared → Prop} {s : Shared} {Q : Value → Shared → Prop}
theorem leI {a b : Int} {t u : Tok} {c : Bool} (hc : decide (a ≤ b) = c) (h : Q (.bool c) s) : wpAny (model prog w) A (compareOp .LtE (.int a t) (.int b u)) Q E s := PyProof.Rows.le_int (hc ▸ h)
end
theorem parse_end {w : World} {A : Around} {s : Shared} {g : Heap} {L it : Addr} {m : Str → Option Value} {p j : Int} {r y : Str} {tj : Tok} {news : List (Addr × Obj)} {Q : Flow → Shared → Prop}
    (F : Fr g L s.heap m) (N : News g L s.heap news) (V : PL m it p r y) (hj : m "j" = some (.int j tj)) (hz : r.length ≤ 4000) (hq : y = "?" → 0 < p)
    (h : ∀ b tt ty h' m' tk', Fr g L h' m' → News g L h' ((b, tupOf [.str (fin p j r) tt, .str y ty]) :: news) → Q (.ret (.ref b)) { s with heap := h', toks := tk' }) :
    wpAny (model PG w) A (execs ((fnBody w.params 85).drop 7) (pEnv w L)) Q NoE s := by
  obtain ⟨tr, hr⟩ := V.res
  obtain ⟨tp, hp⟩ := V.pri
  obtain ⟨ty, hy⟩ := V.nxt
  have rest : ∀ {s₁ : Shared} {m₁ : Str → Option Value} {tr₁ : Tok} {r₁ : Str}, Fr g L s₁.heap m₁ → News g L s₁.heap news → m₁ "priority" = some (.int p tp) → m₁ "nexttok" = some (.str y ty) → m₁ "result" = some (.str r₁ tr₁) →
      (∀ b h' tk', Fr g L h' m₁ → News g L h' ((b, tupOf [.str r₁ tr₁, .str y ty]) :: news) → Q (.ret (.ref b)) { s₁ with heap := h', toks := tk' }) →
      wpAny (model PG w) A (execs ((fnBody w.params 85).drop 8) (pEnv w L)) Q NoE s₁ := by
    intro s₁ m₁ tr₁ r₁ F N hp hy hr h
    refine st_if ?_
    refine isTrue_and ?_
    refine wpAny_isTrue_Compare1 ?_
    refine nameX_L F hy ?_
    refine cstr ?_
    intro _ _
    refine eqS rfl ?_
    have fini : ∀ {tk : Nat}, wpAny (model PG w) A (execs ((fnBody w.params 85).drop 9) (pEnv w L)) Q NoE { s₁ with toks := tk } := by
      intro tk
      refine st_ret ?_
      refine Tuple_ ?_
      refine sp_more nofun ?_
      refine nameX_L F hr ?_
      refine sp_more nofun ?_
      refine nameX_L F hy ?_
      refine sp_nil ?_
      refine kup_newTuple F N ?_ (by show 2 ≤ sizeLine; decide)
      intro D h4 F N ltD
      exact h D h4 _ F N
    refine (Bool.eq_false_or_eq_true (y == Str.ofString "?")).elim (fun hb => ?_) (fun hb => ?_)
    · refine truthyT hb ?_
      refine ite_tt ?_
      refine isTrue_and ?_
      refine wpAny_isTrue_Compare1 ?_
      refine nameX_L F hp ?_
      refine cint ?_
      intro _ _
      refine leI (decide_eq_false (by have := hq (eq_of_beq hb); omega)) ?_
      refine truthyF rfl ?_
      refine ite_ff ?_
      refine st_nil ?_
      refine then_next ?_
      exact fini
    · refine truthyF hb ?_
      refine ite_ff ?_
      refine st_nil ?_
      refine then_next ?_
      exact fini
  refine st_if ?_
  refine isTrue_chain ?_
  refine nameX_L F hj ?_
  refine test_link ?_
  refine nameX_L F hp ?_
  refine eqI rfl ?_
  refine (Bool.eq_false_or_eq_true (j == p)).elim (fun hb => ?_) (fun hb => ?_)
  · refine truthyT hb ?_
    refine ite_tt ?_
    refine test_last ?_
    refine cint ?_
    intro _ _
    refine eqI rfl ?_
    refine (Bool.eq_false_or_eq_true (p == 4)).elim (fun hc => ?_) (fun hc => ?_)
    · refine truthyT hc ?_
      have e : fin p j r = par r := if_pos ⟨eq_of_beq hb, eq_of_beq hc⟩
      refine st_asg ?_
      refine wpAny_BinOp ?_
      refine cstr ?_
      intro _ _
      refine nameX_L F hr ?_
      refine mod_par (by omega) ?_
      intro tr' _
      refine stL F N ?_
      intro h' m' tk' er k F N
      refine st_nil ?_
      refine then_next ?_
      refine rest F N ((k _ (by decide +kernel)).trans hp) ((k _ (by decide +kernel)).trans hy) er ?_
      intro b h'' tk'' F N
      exact h b tr' ty h'' m' tk'' F (e ▸ N)
    · refine truthyF hc ?_
      have e : fin p j r = r := if_neg fun q => by rw [q.2] at hc; exact absurd hc (by decide)
      refine st_nil ?_
      refine then_next ?_
      refine rest F N hp hy hr ?_
      intro b h'' tk'' F N
      exact h b tr ty h'' m tk'' F (e.symm ▸ N)
  · refine truthyF hb ?_
    refine ite_ff ?_
    have e : fin p j r = r := if_neg fun q => by rw [q.1] at hb; simp at hb
    refine st_nil ?_
    refine then_next ?_
    refine rest F N hp hy hr ?_
    intro b h'' tk'' F N
    exact h b tr ty h'' m tk'' F (e.symm ▸ N)

theorem call_of_loop {w : World} {mean : ExcName → Option Value} {mg mb : Str → Option Value} {toks : List Str} {p : Int} {o : Opd} {y : Str} {ts : List Str} {r : Str} {j : Int} {y' : Str} {ts' : List Str}
    (hp7 : p ≤ 7) (hq : y' = "?" → 0 < p) (hz : r.length ≤ 4000) (ls : LSpec w mean mg mb toks p o.text 100 y ts r j y' ts') : PCtr w mean mg mb toks (o.toks ++ y :: ts) p (fin p j r) y' ts' := by
  intro it lt vt nt i io rest tp dp un gd cn cs a ccd cl outer A₀ base h₀ L m s Q E B C hk hd hu F N hne hit ml st hdr ret
  refine wpAny_noRaise ?_
  refine wpAny_call ?_
  refine code_def (binds := [("tokens", .ref it), ("priority", .int p tp)]) B F C.X N C.T rfl rfl hk (f := 85) rfl (by rfl) (by show dp < recursionLimit; omega) (binds_K (K := KF w) (T := 78) (C.X.keeps F.keep) rfl rfl rfl rfl rfl) (locs rfl) ?_ rfl rfl rfl (by decide)
  intro g L' h₁ FG F N B X T
  refine wpAny_noRaise ?_
  refine parse_pro (m := fun y => List.lookup y (List.reverse [(Str.ofString "tokens", Value.ref it), (Str.ofString "priority", Value.int p tp)])) o X T F N hne hit ml st hdr rfl rfl ?_
  clear hit hdr N F
  intro h2 m2 tk2 io i hit hdr V hj F N
  refine st_cons ?_
  refine whl_start 0 ?_
  refine ls it lt vt nt i 0 io rest (dp + 1) (un + 3) gd (envX cn cs L a ccd cl :: outer) _ base g L' m2 _ _ B ⟨X, T⟩ ?_ ?_ F N hne hit ml st hdr V hj ?_
  · omega
  · omega
  clear hit hdr N F V hj
  intro m3 io i h3 tk3 V hj hit hdr F N
  obtain ⟨tj, hj⟩ := hj
  refine then_next ?_
  refine parse_end F N V hj hz hq ?_
  intro b tt ty h4 m4 tk4 F N
  refine leaveK_ F N ?_
  intro F N
  exact ret b tt ty io i h4 tk4 hit hdr F N

theorem loop_ok {w : World} {mean : ExcName → Option Value} {mg mb : Str → Option Value} {toks : List Str} {p : Int} {r : Str} {j : Int} {y : Str} {ts : List Str} {r' : Str} {j' : Int} {y' : Str} {ts' : List Str}
    (Lp : Loops p r j y ts r' j' y' ts') : LSpec w mean mg mb toks p r j y ts r' j' y' ts' := by
  induction Lp with
  | stop hy _ _ => exact loop_stop hy
  | @step p r j y o y1 ts1 r1 j1 z ts2 r' j' y' ts' hop hle hz L1 L2 ih1 ih2 =>
    have hr := rk_bounds hop
    have hf := fin_len (rk y + 1) j1 r1
    have hl := L1.len
    exact loop_step hop hle hz (by omega) (call_of_loop (by omega) (fun _ => by omega) hl ih1) ih2
theorem Loops.q {p : Int} {r : Str} {j : Int} {y : Str} {ts : List Str} {r' : Str} {j' : Int} {y' : Str} {ts' : List Str} (Lp : Loops p r j y ts r' j' y' ts') : y' = "?" → 0 < p := by
  induction Lp with
  | stop _ h _ => exact h
  | step _ _ _ _ _ _ ih => exact ih
theorem parse_ok {w : World} {mean : ExcName → Option Value} {mg mb : Str → Option Value} {toks : List Str} {p : Int} {o : Opd} {y : Str} {ts : List Str} {r : Str} {j : Int} {y' : Str} {ts' : List Str}
    (hp7 : p ≤ 7) (Lp : Loops p o.text 100 y ts r j y' ts') : PCtr w mean mg mb toks (o.toks ++ y :: ts) p (fin p j r) y' ts' := call_of_loop hp7 Lp.q Lp.len (loop_ok Lp)
end Mine
end
section
open PySem PySem.W PyProof.Rows
set_option Elab.async false
set_option maxRecDepth 100000
set_option maxHeartbeats 4000000
namespace Mine
noncomputable abbrev lSc (w : World) : Scope := (fnData w.params 100).scope
noncomputable abbrev lEnv (w : World) (L fa : Addr) (cd : Value) : Env := envX "law" (lSc w) L fa cd (cellsFrom (L + 1) (lSc w).names [])
def opOf (x : Int) : Str := opsL.getD (x.fmod 13).toNat Str.empty
def opdL : List Opd := [.n, .four, .sept, .bang]
def wordL : List Str := ["n", "4", "017", "! n"]
def opdOf (x : Int) : Opd := opdL.getD ((x.fdiv 13).fmod 4).toNat .n
theorem fmod_lt (x : Int) {b : Int} (hb : 0 < b) : 0 ≤ x.fmod b ∧ x.fmod b < b := ⟨Int.fmod_nonneg_of_pos x hb, Int.fmod_lt_of_pos x hb⟩
theorem opOf_is (x : Int) : IsOp (opOf x) := by
  obtain ⟨h0, h1⟩ := fmod_lt x (b := 13) (by decide)
  have : ∀ k, k < 13 → opsL.getD k Str.empty ∈ opsL := by decide +kernel
  exact this _ (by omega)
theorem opdOf_word (x : Int) : wordL.getD ((x.fdiv 13).fmod 4).toNat Str.empty = (opdOf x).word := by
  obtain ⟨h0, h1⟩ := fmod_lt (x.fdiv 13) (b := 4) (by decide)
  have : ∀ k, k < 4 → wordL.getD k Str.empty = (opdL.getD k .n).word := by decide +kernel
  exact this _ (by omega)
theorem strs_snoc {vs : List Value} {ws : List Str} {y : Str} {t : Tok} (h : StrsAre vs ws) : StrsAre (vs ++ [.str y t]) (ws ++ [y]) := strs_app h (.cons y t .nil)
theorem ints_get {vs : List Value} {ns : List Int} (h : IntsAre vs ns) : ∀ {i : Nat} {v : Value}, vs[i]? = some v → ∃ x t, ns[i]? = some x ∧ v = .int x t := by
  induction h with
  | nil => intro i x e; simp at e
  | cons y t _ ih => intro i x e; cases i with
    | zero => simp at e; subst e; exact ⟨y, t, rfl, rfl⟩
    | succ i => exact ih (by simpa using e)
def tailL : List Str := ["", ")", ":", "n", "?"]
section
variable {prog : Program} {w : World} {A : Around} {E : Value → Shared → Prop} {s : Shared} {Q : Value → Shared → Prop}
theorem modI {a b : Int} {t u : Tok} (hb : b ≠ 0) (h : ∀ t tk, Q (.int (a.fmod b) t) { s with toks := tk }) : wpAny (model prog w) A (binaryOp .Mod (.int a t) (.int b u)) Q E s := PyProof.Rows.mod_int' hb (h _ _)
theorem divI {a : Int} {b : Int} {t u : Tok} (hb : b ≠ 0) (hs : b.natAbs.log2 < 9000) (h : ∀ t tk, Q (.int (a.fdiv b) t) { s with toks := tk }) : wpAny (model prog w) A (binaryOp .FloorDiv (.int a t) (.int b u)) Q E s :=
  PyProof.Rows.floordiv_int hb (h _ _) (.inl (PyProof.noPylong_of_log2 hs))
theorem subI {a b : Int} {t u : Tok} (h : ∀ t tk, Q (.int (a - b) t) { s with toks := tk }) : wpAny (model prog w) A (binaryOp .Sub (.int a t) (.int b u)) Q E s := PyProof.Rows.sub_int (h _ _)
theorem mul13 {a : Int} {t u : Tok} (h : ∀ t tk, Q (.int (a * 13) t) { s with toks := tk }) : wpAny (model prog w) A (binaryOp .Mult (.int a t) (.int 13 u)) Q E s := PyProof.Rows.mul_int (h _ _) (IntMulOk.of_right (by decide))
end
section
variable {prog : Program} {w : World} {A : Around} {h₀ : Heap} {L : Addr} {m : Str → Option Value} {env : Env} {ct elt : Expr} {x : Str} {scope : Scope} {cl : List (Str × Addr)} {s : Shared} {S : List (Addr × Obj) → Prop} {Fin : List Value → List (Addr × Obj) → Prop} {news : List (Addr × Obj)} {vs : List Value}
theorem comp_UI {ns : List Int} (hI : IntsAre vs ns) (Inv : Nat → List Value → Prop)
    (turn : ∀ (i : Nat) (n : Int) (t : Tok) (I C D : Addr) (oI oC : Obj) (m₂ : Str → Option Value) (h : Heap) (tk : Nat) (ys : List Value) (E' : Value → Shared → Prop), ns[i]? = some n → Inv i ys → LCg.NsObj oC m₂ → m₂ x = some (.int n t) → Fr h₀ L h m → News h₀ L h ((I, oI) :: (C, oC) :: (D, LCg.lst ys) :: news) →
      wpAny (model prog w) A (eval elt (compEnvC scope cl C env)) (fun y s'' => ∃ h' tk', s'' = { s with heap := h', toks := tk' } ∧ Fr h₀ L h' m ∧ News h₀ L h' ((I, oI) :: (C, oC) :: (D, LCg.lst ys) :: news) ∧ Inv (i + 1) (ys ++ [y])) E' { s with heap := h, toks := tk })
    (fin : ∀ ys, Inv ns.length ys → Fin ys news) (h0 : Inv 0 []) (hS : S news) : LCg.CompRest prog w A h₀ L m env elt x scope cl s S (fun i v => vs.toArray[i]? = some v) Fin vs.toArray.size 0 [] news := by
  have e : vs.toArray.size = ns.length := by rw [List.size_toArray, hI.length]
  rw [e]
  refine comp_U Inv ?_ fin h0 hS
  intro i v I C D oI oC m₂ h tk ys E' hi hP hy hC hx F N
  obtain ⟨n, t, ex, rfl⟩ := ints_get hI (i := i) (by simpa using hP)
  exact turn i n t I C D oI oC m₂ h tk ys E' ex hy hC hx F N
theorem comp_US {ns : List Str} (hI : StrsAre vs ns) (Inv : Nat → List Value → Prop)
    (turn : ∀ (i : Nat) (n : Str) (t : Tok) (I C D : Addr) (oI oC : Obj) (m₂ : Str → Option Value) (h : Heap) (tk : Nat) (ys : List Value) (E' : Value → Shared → Prop), ns[i]? = some n → Inv i ys → LCg.NsObj oC m₂ → m₂ x = some (.str n t) → Fr h₀ L h m → News h₀ L h ((I, oI) :: (C, oC) :: (D, LCg.lst ys) :: news) →
      wpAny (model prog w) A (eval elt (compEnvC scope cl C env)) (fun y s'' => ∃ h' tk', s'' = { s with heap := h', toks := tk' } ∧ Fr h₀ L h' m ∧ News h₀ L h' ((I, oI) :: (C, oC) :: (D, LCg.lst ys) :: news) ∧ Inv (i + 1) (ys ++ [y])) E' { s with heap := h, toks := tk })
    (fin : ∀ ys, Inv ns.length ys → Fin ys news) (h0 : Inv 0 []) (hS : S news) : LCg.CompRest prog w A h₀ L m env elt x scope cl s S (fun i v => vs.toArray[i]? = some v) Fin vs.toArray.size 0 [] news := by
  have e : vs.toArray.size = ns.length := by rw [List.size_toArray, strs_len hI]
  rw [e]
  refine comp_U Inv ?_ fin h0 hS
  intro i v I C D oI oC m₂ h tk ys E' hi hP hy hC hx F N
  obtain ⟨n, t, ex, rfl⟩ := strs_of_get hI (i := i) (by simpa using hP)
  exact turn i n t I C D oI oC m₂ h tk ys E' ex hy hC hx F N
end
def asgVal : Stmt → Expr
  | .Assign _ v _ => v
  | _ => .Constant .none 0 ⟨0, 0, 0, 0⟩
def subIdx : Expr → Expr
  | .Subscript _ i _ => i
  | _ => .Constant .none 0 ⟨0, 0, 0, 0⟩
noncomputable def idxE (P : Params) : Expr := subIdx (asgVal ((fnBody P 100).getD 5 (.Pass ⟨0, 0, 0, 0⟩)))
theorem tail_idx {w : World} {mean : ExcName → Option Value} {mg mb : Str → Option Value} {A : Around} {h₀ : Heap} {L fa l : Addr} {cd : Value} {m : Str → Option Value} {s : Shared} {vs : List Value} {ns : List Int} {p : Int} {tp : Tok} {news : List (Addr × Obj)} {Q E : Value → Shared → Prop}
    (hh : A.handled = none) (X : (KF w).In h₀) (T : Top hd.view_39 LO mean mg mb h₀) (hI : IntsAre vs ns) (F : Fr h₀ L s.heap m) (N : News h₀ L s.heap news) (ml : s.heap.IsList l vs.toArray) (hm : m "script" = some (.ref l)) (hp : m "priority" = some (.int p tp))
    (h : ∀ k t h' tk', 0 ≤ k → k < 5 → (p ≤ 0 → k < 4) → Fr h₀ L h' m → News h₀ L h' news → Q (.int k t) { s with heap := h', toks := tk' }) :
    wpAny (model PG w) A (eval (idxE w.params) (lEnv w L fa cd)) Q E s := by
  refine wpAny_BinOp ?_
  refine wpAny_BinOp ?_
  refine Call_ ?_
  refine nameX_B F X (topRead_of T) (by rfl) (by boot_by_name) (by decide) ?_
  refine PyProof.Rows.callWith_builtin1 ?_
  refine sp_more nofun ?_
  refine nameX_L F hm ?_
  refine sp_nil ?_
  refine LSm.sum_ints F N hh ml hI ?_
  intro h1 _ _ F N
  refine cint ?_
  intro _ _
  refine divI (by decide) (by decide) ?_
  intro _ _
  refine IfExp_ ?_
  refine wpAny_isTrue_Compare1 ?_
  refine nameX_L F hp ?_
  refine cint ?_
  intro _ _
  refine leI rfl ?_
  refine (Bool.eq_false_or_eq_true (decide (p ≤ 0))).elim (fun hb => ?_) (fun hb => ?_)
  · refine truthyT hb ?_
    refine ite_tt ?_
    refine cint ?_
    intro _ _
    refine modI (by decide) ?_
    intro t' tk'
    have f := fmod_lt (ns.sum.fdiv 9) (b := 4) (by decide)
    exact h _ t' h1 tk' f.1 (by omega) (fun _ => f.2) F N
  · refine truthyF hb ?_
    refine ite_ff ?_
    refine cint ?_
    intro _ _
    refine modI (by decide) ?_
    intro t' tk'
    have f := fmod_lt (ns.sum.fdiv 9) (b := 5) (by decide)
    exact h _ t' h1 tk' f.1 f.2 (fun q => absurd q (of_decide_eq_false hb)) F N
theorem news2 {h₀ h : Heap} {L a b : Addr} {o o' : Obj} {l : List (Addr × Obj)} (N : News h₀ L h l) (h1 : (a, o) ∈ l) (h2 : (b, o') ∈ l) : News h₀ L h [(a, o), (b, o')] :=
  fun p hp => (List.mem_cons.mp hp).elim (fun e => e ▸ N _ h1) fun hp => (List.mem_cons.mp hp).elim (fun e => e ▸ N _ h2) fun hp => nomatch hp
theorem opsL_len : ((opsL.length : Nat) : Int) = 13 := by decide +kernel
theorem strs13 {t0 t1 t2 t3 t4 t5 t6 t7 t8 t9 t10 t11 t12 : Tok} : StrsAre [.str (Str.ofString "||") t0, .str (Str.ofString "&&") t1, .str (Str.ofString "==") t2, .str (Str.ofString "!=") t3, .str (Str.ofString "<") t4, .str (Str.ofString ">") t5, .str (Str.ofString "<=") t6, .str (Str.ofString ">=") t7, .str (Str.ofString "+") t8, .str (Str.ofString "-") t9, .str (Str.ofString "*") t10, .str (Str.ofString "/") t11, .str (Str.ofString "%") t12] opsL :=
  .cons _ _ (.cons _ _ (.cons _ _ (.cons _ _ (.cons _ _ (.cons _ _ (.cons _ _ (.cons _ _ (.cons _ _ (.cons _ _ (.cons _ _ (.cons _ _ (.cons _ _ .nil))))))))))))
theorem wordL_len : ((wordL.length : Nat) : Int) = 4 := by decide +kernel
theorem strs4 {t0 t1 t2 t3 : Tok} : StrsAre [.str (Str.ofString "n") t0, .str (Str.ofString "4") t1, .str (Str.ofString "017") t2, .str (Str.ofString "! n") t3] wordL := .cons _ _ (.cons _ _ (.cons _ _ (.cons _ _ .nil)))
theorem tailL_len : ((tailL.length : Nat) : Int) = 5 := by decide +kernel
theorem strs5 {t0 t1 t2 t3 t4 : Tok} : StrsAre [.str (Str.ofString "") t0, .str (Str.ofString ")") t1, .str (Str.ofString ":") t2, .str (Str.ofString "n") t3, .str (Str.ofString "?") t4] tailL := .cons _ _ (.cons _ _ (.cons _ _ (.cons _ _ (.cons _ _ .nil))))
theorem tail_facts : ∀ k, k < 5 → ¬ IsOp (tailL.getD k Str.empty) ∧ PyData.strOk (tailL.getD k Str.empty) = true ∧ (tailL.getD k Str.empty = "?" → k = 4) := by decide +kernel
set_option maxHeartbeats 8000000 in
theorem law_a {w : World} {mean : ExcName → Option Value} {mg mb : Str → Option Value} {A : Around} {h₀ : Heap} {L fa l : Addr} {cd : Value} {m : Str → Option Value} {s : Shared} {vs : List Value} {ns : List Int} {oc : Obj} {Q : Flow → Shared → Prop}
    (hh : A.handled = none) (X : (KF w).In h₀) (T : Top hd.view_39 LO mean mg mb h₀) (hL : h₀.IsList l vs.toArray) (hI : IntsAre vs ns) (hn : ns.length ≤ 63) (F : Fr h₀ L s.heap m) (N : News h₀ L s.heap [(L + 1, oc)]) (dc : oc.data = .cell none) (hm : m "script" = some (.ref l))
    (h : ∀ h' m' tk' lo lp vo vp no np opds ops p tp tail tt, opds.length = ops.length + 1 → ops.length ≤ 63 → (∀ q ∈ ops, IsOp q) → -1 ≤ p → p ≤ 7 → ¬ IsOp tail → (tail = "?" → 0 < p) → PyData.strOk tail = true →
      StrsAre vo (List.map Opd.word opds) → StrsAre vp ops → m' (Str.ofString "ops") = some (.ref lp) → m' (Str.ofString "operands") = some (.ref lo) → m' (Str.ofString "priority") = some (Value.int p tp) → m' (Str.ofString "tail") = some (Value.str tail tt) → Fr h₀ L h' m' →
      News h₀ L h' [(lo, W.listOf vo.toArray no), (lp, W.listOf vp.toArray np)] → wpAny (model PG w) A (execs ((fnBody w.params 100).drop 6) (lEnv w L fa cd)) Q NoE { s with heap := h', toks := tk' }) :
    wpAny (model PG w) A (execs (fnBody w.params 100) (lEnv w L fa cd)) Q NoE s := by
  have hvs : vs.length = ns.length := hI.length
  -- script = script[:63]
  refine st_asg ?_
  refine sl_upto ?_
  refine nameX_L F hm ?_
  refine cint ?_
  intro _ _
  refine ⟨l, vs, _, _, _, _, _, _, rfl, rfl, by decide, Heap.IsList.at hL (fun o e => F.keep l o e), ?_, F, N, ?_⟩
  · rw [hvs, sizeLine_eq]; omega
  intro D1 h1 F N lt1
  have etake : vs.take (63 : Int).toNat = vs := List.take_of_length_le (by rw [hvs]; exact hn)
  rw [etake] at N
  refine stL F N ?_
  clear hm
  intro h2 m2 tk2 hm k2 F N
  clear k2
  -- every = [...]
  refine st_asg ?_
  refine List_ ?_
  refine sp_str ?_
  refine sp_str ?_
  refine sp_str ?_
  refine sp_str ?_
  refine sp_str ?_
  refine sp_str ?_
  refine sp_str ?_
  refine sp_str ?_
  refine sp_str ?_
  refine sp_str ?_
  refine sp_str ?_
  refine sp_str ?_
  refine sp_str ?_
  refine sp_nil ?_
  refine newList_K F N ?_ (by show 13 ≤ sizeLine; decide)
  intro le h3 F N lt3
  have l1 := ltN (lt1 (L + 1, oc) (.head _))
  have l3 := ltN (lt3 (L + 1, oc) (.tail _ (.head _)))
  refine storeX_C F N (c := L + 1) (o := oc) rfl (.tail (neN (by dsimp only; omega)) (.tail (neN (by dsimp only; omega)) (.head (fun _ hp => nomatch hp)))) dc ?_
  clear dc
  intro h4 oc F N dc
  -- priority = sum(script) % 9 - 1
  refine st_asg ?_
  refine wpAny_BinOp ?_
  refine wpAny_BinOp ?_
  refine Call_ ?_
  refine nameX_B F X (topRead_of T) (by rfl) (by boot_by_name) (by decide) ?_
  refine PyProof.Rows.callWith_builtin1 ?_
  refine sp_more nofun ?_
  refine nameX_L F hm ?_
  refine sp_nil ?_
  refine LSm.sum_ints F N hh (News.isList N (.tail _ (.head _))) hI ?_
  intro h5 tk5 _ F N
  refine cint ?_
  intro _ _
  refine modI (by decide) ?_
  intro _ _
  refine cint ?_
  intro _ _
  refine subI ?_
  intro tp _
  refine stL F N ?_
  intro h6 m6 tk6 hp k6 F N
  replace hm := (k6 _ (by decide +kernel)).trans hm
  clear k6
  -- ops = [every[x % 13] for x in script]
  refine st_cons ?_
  refine LCg.Assign_ListComp_U (cl := [(Str.ofString "every", L + 1)]) F rfl (by with_unfolding_all rfl) (by rfl) (by decide) rfl (by decide) rfl rfl rfl ?_
  refine nameX_L F hm ?_
  refine LCg.CompSrc.ledger hh F N (.tail _ (.head _)) ?_ ?_
  · rw [List.size_toArray, hvs, sizeLine_eq]; omega
  intro g1
  refine comp_UI hI (fun i ys => StrsAre ys ((ns.take i).map opOf)) ?_ ?_ .nil (.inr ⟨_, .tail _ (.head _), rfl, _, rfl⟩)
  · intro i x t I C D oI oC m₂ h tk ys E' ex hy hC hx F N
    have f0 := (fmod_lt x (b := 13) (by decide)).1
    have f1 := (fmod_lt x (b := 13) (by decide)).2
    refine Subscript_ ?_
    refine lcf_cell N (c := L + 1) (o := oc) rfl (.tail _ (.tail _ (.tail _ (.tail _ (.tail _ (.head _)))))) dc ?_ rfl rfl
    refine wpAny_BinOp ?_
    refine LCgL.ld_own N (.tail _ (.head _)) hC hx ?_
    refine cint ?_
    intro _ _
    refine modI (by decide) ?_
    intro _ _
    refine KTb.item_list (ws := opsL) (News.isList N (.tail _ (.tail _ (.tail _ (.head _))))) strs13 f0 (by rw [opsL_len]; exact f1) (by omega) ?_
    intro t' _
    refine ⟨_, _, rfl, F, N, ?_⟩
    rw [List.take_add_one, ex, List.map_append]
    exact strs_snoc hy
  intro vp hvp
  rw [List.take_length] at hvp
  intro lp h7 tk7 F N off
  refine then_next ?_
  refine fr_abs F ?_
  clear F
  intro m7 F hops k7
  replace hm := (k7 _ (by decide +kernel)).trans hm
  replace hp := (k7 _ (by decide +kernel)).trans hp
  clear k7 off
  -- operands = [...]
  refine st_cons ?_
  refine LCg.Assign_ListComp_U (cl := []) F rfl (by with_unfolding_all rfl) (by rfl) (by decide) rfl (by decide) rfl rfl rfl ?_
  refine wpAny_BinOp ?_
  refine nameX_L F hm ?_
  refine List_ ?_
  refine sp_more nofun ?_
  refine wpAny_BinOp ?_
  refine Call_ ?_
  refine nameX_B F X (topRead_of T) (by rfl) (by boot_by_name) (by decide) ?_
  refine PyProof.Rows.callWith_builtin1 ?_
  refine sp_more nofun ?_
  refine nameX_L F hm ?_
  refine sp_nil ?_
  refine lenL (News.isList N (.tail _ (.tail _ (.head _)))) hvs (by omega) ?_
  intro _ _
  refine cint ?_
  intro _ _
  refine mul13 ?_
  intro tq _
  refine sp_nil ?_
  refine newList_K F N ?_ (by show 1 ≤ sizeLine; decide)
  intro l13 h8 F N lt8
  refine kmk_add_lit (zs := vs ++ [.int ((ns.length : Int) * 13) tq]) F N (News.isList N (.tail _ (.tail _ (.tail _ (.head _))))) (News.isList N (.head _)) rfl ?_ (by show vs.length + 1 ≤ sizeLine; rw [hvs, sizeLine_eq]; omega)
  intro Dc h9 F N lt9
  refine LCg.CompSrc.ledger hh F N (.head _) ?_ ?_
  · rw [List.size_toArray, List.length_append, hvs, sizeLine_eq]; simp; omega
  intro g2
  refine comp_UI (ns := ns ++ [(ns.length : Int) * 13]) (ints_snoc hI) (fun i ys => StrsAre ys (((ns ++ [(ns.length : Int) * 13]).take i).map (fun x => (opdOf x).word))) ?_ ?_ .nil (.inr ⟨_, .head _, rfl, _, rfl⟩)
  · intro i x t I C D oI oC m₂ h tk ys E' ex hy hC hx F N
    have f0 := (fmod_lt (x.fdiv 13) (b := 4) (by decide)).1
    have f1 := (fmod_lt (x.fdiv 13) (b := 4) (by decide)).2
    refine Subscript_ ?_
    refine List_ ?_
    refine sp_str ?_
    refine sp_str ?_
    refine sp_str ?_
    refine sp_str ?_
    refine sp_nil ?_
    refine newList_K F N ?_ (by show 4 ≤ sizeLine; decide)
    intro lw hw F N ltw
    refine wpAny_BinOp ?_
    refine wpAny_BinOp ?_
    refine LCgL.ld_own N (.tail _ (.tail _ (.head _))) hC hx ?_
    refine cint ?_
    intro _ _
    refine divI (by decide) (by decide) ?_
    intro _ _
    refine cint ?_
    intro _ _
    refine modI (by decide) ?_
    intro _ _
    refine KTb.item_list (ws := wordL) (News.isList N (.head _)) strs4 f0 (by rw [wordL_len]; exact f1) (by omega) ?_
    intro t' _
    refine ⟨_, _, rfl, F, news_tail N, ?_⟩
    rw [List.take_add_one, ex, List.map_append, opdOf_word]
    exact strs_snoc hy
  intro vo hvo
  rw [List.take_length] at hvo
  intro lo h10 tk10 F N off
  refine then_next ?_
  refine fr_abs F ?_
  clear F
  intro m10 F hopd k10
  replace hm := (k10 _ (by decide +kernel)).trans hm
  replace hp := (k10 _ (by decide +kernel)).trans hp
  replace hops := (k10 _ (by decide +kernel)).trans hops
  clear k10 off
  -- tail = [...]
  refine st_asg ?_
  refine Subscript_ ?_
  refine List_ ?_
  refine sp_str ?_
  refine sp_str ?_
  refine sp_str ?_
  refine sp_str ?_
  refine sp_str ?_
  refine sp_nil ?_
  refine newList_K F N ?_ (by show 5 ≤ sizeLine; decide)
  intro lt5 h11 F N lt11
  refine tail_idx hh X T hI F N (News.isList N (.tail _ (.tail _ (.tail _ (.tail _ (.tail _ (.tail _ (.head _)))))))) hm hp ?_
  intro k tk5 h12 tk12 k0 k5 k4 F N
  refine KTb.item_list (ws := tailL) (News.isList N (.head _)) strs5 k0 (by rw [tailL_len]; exact k5) (by omega) ?_
  intro tt _
  refine stL F N ?_
  intro h13 m13 tk13 htail k13 F N
  have fp := fmod_lt ns.sum (b := 9) (by decide)
  have tf := tail_facts k.toNat (by omega)
  have e1 : ((ns ++ [(ns.length : Int) * 13]).map opdOf).length = (ns.map opOf).length + 1 := by simp
  have e2 : (ns.map opOf).length ≤ 63 := by rw [List.length_map]; exact hn
  have e3 : ∀ q ∈ ns.map opOf, IsOp q := fun q hq => (List.mem_map.mp hq).elim fun x hx => hx.2 ▸ opOf_is x
  have e4 : -1 ≤ ns.sum.fmod 9 - 1 := by omega
  have e5 : ns.sum.fmod 9 - 1 ≤ 7 := by omega
  have e6 : tailL.getD k.toNat Str.empty = "?" → 0 < ns.sum.fmod 9 - 1 := fun e => by
    have := tf.2.2 e
    rcases Int.lt_or_le 0 (ns.sum.fmod 9 - 1) with hlt | hle
    · exact hlt
    · have := k4 hle; omega
  have e7 : StrsAre vo (List.map Opd.word ((ns ++ [(ns.length : Int) * 13]).map opdOf)) := by rw [List.map_map]; exact hvo
  have e8 : News h₀ L h13 [(lo, W.listOf vo.toArray vo.length), (lp, W.listOf vp.toArray vp.length)] := news2 N (.tail _ (.head _)) (.tail _ (.tail _ (.tail _ (.tail _ (.head _)))))
  have e9 := (k13 (Str.ofString "ops") (by decide +kernel)).trans hops
  have e10 := (k13 (Str.ofString "operands") (by decide +kernel)).trans hopd
  have e11 := (k13 (Str.ofString "priority") (by decide +kernel)).trans hp
  exact h h13 m13 tk13 lo lp vo vp vo.length vp.length _ _ _ tp _ tt e1 e2 e3 e4 e5 tf.1 e6 tf.2.1 e7 hvp e9 e10 e11 htail F e8
end Mine
end
section
open PySem PySem.W PyProof.Rows
set_option Elab.async false
set_option maxRecDepth 100000
set_option maxHeartbeats 4000000
namespace Mine
/-- the tokens of the first operands and operations -/
def tkn : List Opd → List Str → List Str
  | o :: os, q :: qs => o.toks ++ q :: tkn os qs
  | _, _ => []
theorem tkn_step : ∀ {opds : List Opd} {ops : List Str} {i : Nat} {o : Opd} {q : Str}, opds[i]? = some o → ops[i]? = some q → tkn (opds.take (i + 1)) (ops.take (i + 1)) = tkn (opds.take i) (ops.take i) ++ (o.toks ++ [q])
  | [], _, _, _, _, h, _ => by simp at h
  | _ :: _, [], _, _, _, _, h => by simp at h
  | a :: opds, b :: ops, 0, o, q, h, h' => by
    simp at h h'; subst h; subst h'
    simp [tkn]
  | a :: opds, b :: ops, i + 1, o, q, h, h' => by
    have ih := tkn_step (opds := opds) (ops := ops) (i := i) (by simpa using h) (by simpa using h')
    simp only [List.take_succ_cons, tkn] at ih ⊢
    rw [ih]; simp
theorem toks_len (o : Opd) : 1 ≤ o.toks.length ∧ o.toks.length ≤ 2 := by cases o <;> decide
theorem tkn_len : ∀ (opds : List Opd) (ops : List Str), (tkn opds ops).length ≤ 3 * ops.length
  | [], _ => by simp [tkn]
  | _ :: _, [] => by simp [tkn]
  | o :: opds, q :: ops => by
    have := tkn_len opds ops
    have := toks_len o
    simp only [tkn, List.length_append, List.length_cons]; omega
theorem words_toks (o : Opd) : Txt.words o.word = o.toks := by cases o <;> decide +kernel
theorem word_len (o : Opd) : o.word.length ≤ 3 := by cases o <;> decide +kernel
structure MB (m : Str → Option Value) (lt lo lp : Addr) (p : Int) (tp : Tok) (tail : Str) (tt : Tok) : Prop where
  tok : m "tokens" = some (.ref lt)
  ops : m "ops" = some (.ref lp)
  opd : m "operands" = some (.ref lo)
  pri : m "priority" = some (.int p tp)
  tl : m "tail" = some (.str tail tt)
theorem MB.put {m m' : Str → Option Value} {lt lo lp : Addr} {p : Int} {tp : Tok} {tail : Str} {tt : Tok} {x : Str} (V : MB m lt lo lp p tp tail tt) (k : ∀ z, z ≠ x → m' z = m z) (h1 : Str.ofString "tokens" ≠ x) (h2 : Str.ofString "ops" ≠ x) (h3 : Str.ofString "operands" ≠ x) (h4 : Str.ofString "priority" ≠ x) (h5 : Str.ofString "tail" ≠ x) : MB m' lt lo lp p tp tail tt :=
  ⟨(k _ h1).trans V.tok, (k _ h2).trans V.ops, (k _ h3).trans V.opd, (k _ h4).trans V.pri, (k _ h5).trans V.tl⟩
noncomputable def tokBody (P : Params) : List Stmt := forBody ((fnBody P 100).getD 7 (.Pass ⟨0, 0, 0, 0⟩))
theorem short_list {n : Nat} (h : n ≤ 1000) {b : Bool} : ¬ (b && Builtin.List.listTooLong n) = true := by
  have e : Builtin.List.listTooLong n = false := by
    unfold Builtin.List.listTooLong
    exact decide_eq_false (by rw [sizeLine_eq]; omega)
  rw [e]; simp
section
variable {prog : Program} {w : World} {A : Around} {E : Value → Shared → Prop} {s : Shared} {h₀ : Heap} {L lt b : Addr} {m : Str → Option Value} {rest : List (Addr × Obj)} {vt vb : List Value} {ct nb : Nat}
theorem item_last {value slice : Expr} {l : Addr} {vs : List Value} {n : Nat} {u : Tok} {v : Value} {Q : Value → Shared → Prop} (hl : s.heap.IsList l vs.toArray) (hn : vs.length = n + 1) (hx : vs[n]? = some v) (h : Q v s)
    (hs : subscripted slice false (.ref l) (.int (-1) u) = operate [.ref l, .int (-1) u] (getItem (.ref l) (.int (-1) u)) := by with_unfolding_all rfl) :
    wpAny (model prog w) A (subscriptTail value slice (.ref l) (.int (-1) u)) Q E s :=
  tail_any hl.typeIs slot_list_getitem.lookup (wpAny_getItem_list_neg hl (by decide) (by rw [List.size_toArray]; omega) (by omega) (by rw [List.size_toArray, hn, show ((-1 : Int) + ((n + 1 : Nat) : Int)).toNat = n by omega]; simpa using hx) h) hs
theorem ext_call {Q : Value → Shared → Prop} (F : Fr h₀ L s.heap m) (N : News h₀ L s.heap ((lt, W.listOf vt.toArray ct) :: (b, W.listOf vb.toArray nb) :: rest)) (hne : ∀ p ∈ (b, W.listOf vb.toArray nb) :: rest, p.1 ≠ lt) (hb : vb.length ≠ 0) (hz : vt.length + vb.length ≤ 1000)
    (h : ∀ h', Fr h₀ L h' m → News h₀ L h' ((lt, W.listOf (vt ++ vb).toArray (ct + 1)) :: (b, W.listOf vb.toArray nb) :: rest) → Q .none { s with heap := h' }) :
    wpAny (model prog w) A (call (.builtin "list.extend") [.ref lt, .ref b]) Q E s := by
  refine kl_extend F N (.tail _ (.head _)) (l := vt ++ vb) rfl (by simpa using hb) (upd_head hne) (short_list (by simpa using hz)) ?_ ?_ h
  · rw [sizeLine_eq]; simp; omega
  · rw [List.size_toArray, List.size_toArray, sizeLine_eq]; omega
end
section
variable {w : World} {A : Around} {E : Value → Shared → Prop} {s : Shared} {h₀ : Heap} {L fa lt lo lp I : Addr} {cd : Value} {m : Str → Option Value} {vt vo vp : List Value} {ct no np i : Nat} {it : Obj} {opds : List Opd} {ops toks : List Str} {o : Opd} {q : Str} {p : Int} {tp tt tk0 : Tok} {tail : Str} {Q : Flow → Shared → Prop}
theorem tok_turn (F : Fr h₀ L s.heap m) (N : News h₀ L s.heap [(I, it), (lt, W.listOf vt.toArray ct), (lo, W.listOf vo.toArray no), (lp, W.listOf vp.toArray np)]) (V : MB m lt lo lp p tp tail tt) (hk : m "k" = some (.int (i : Int) tk0))
    (so : StrsAre vo (opds.map Opd.word)) (sp : StrsAre vp ops) (st : StrsAre vt toks) (ho : opds[i]? = some o) (hq : ops[i]? = some q) (hi : i ≤ 100) (hlt : vt.length ≤ 500) (n1 : I ≠ lt) (n2 : lo ≠ lt) (n3 : lp ≠ lt)
    (h : ∀ h' tk' vt', StrsAre vt' (toks ++ (o.toks ++ [q])) → Fr h₀ L h' m → News h₀ L h' [(I, it), (lt, W.listOf vt'.toArray (ct + 1)), (lo, W.listOf vo.toArray no), (lp, W.listOf vp.toArray np)] → Q .next { s with heap := h', toks := tk' }) :
    wpAny (model PG w) A (execs (tokBody w.params) (lEnv w L fa cd)) Q E s := by
  obtain ⟨t1, e1⟩ := strs_get so (i := i) (x := o.word) (by rw [List.getElem?_map, ho]; rfl)
  obtain ⟨t2, e2⟩ := strs_get sp hq
  have hwl := word_len o
  have htl := toks_len o
  refine st_cons ?_
  refine wpAny_Expr_any ?_
  refine MethodCall_ ?_
  refine nameX_L F V.tok ?_
  refine kl_method N (.tail _ (.head _)) PySem.F.slot_list_extend PySem.F.type_list_extend ?_
  refine callWith_method1 ?_
  refine sp_more nofun ?_
  refine wpAny_BinOp ?_
  refine MethodCall_ ?_
  refine Subscript_ ?_
  refine nameX_L F V.opd ?_
  refine nameX_L F hk ?_
  refine item_at (News.isList N (.tail _ (.tail _ (.head _)))) (by omega) (by omega) (v := .str o.word t1) (by rw [Int.toNat_natCast]; exact e1) ?_
  refine GM.split ?_
  refine callWith_method0 ?_
  refine KSpl.split0 F N ?_ (by rw [sizeLine_eq]; omega)
  intro Dw l h1 tk1 e SA F N lt1
  rw [words_toks] at e
  refine List_ ?_
  refine sp_more nofun ?_
  refine Subscript_ ?_
  refine nameX_L F V.ops ?_
  refine nameX_L F hk ?_
  refine item_at (News.isList N (.tail _ (.tail _ (.tail _ (.tail _ (.head _)))))) (by omega) (by omega) (v := .str q t2) (by rw [Int.toNat_natCast]; exact e2) ?_
  refine sp_nil ?_
  refine newList_K F N ?_ (by show 1 ≤ sizeLine; decide)
  intro Dl h2 F N lt2
  have hsl : (strValues l).length = o.toks.length := by rw [strs_len SA, e]
  refine kmk_add_lit (zs := strValues l ++ [.str q t2]) F N (News.isList N (.tail _ (.head _))) (News.isList N (.head _)) rfl ?_ (by show (strValues l).length + 1 ≤ sizeLine; rw [hsl, sizeLine_eq]; omega)
  intro Ds h3 F N lt3
  refine sp_nil ?_
  have hds : lt < Ds := lt3 (lt, W.listOf vt.toArray ct) (.tail _ (.tail _ (.tail _ (.head _))))
  have N4 : News h₀ L h3 ((lt, W.listOf vt.toArray ct) :: (Ds, W.listOf (strValues l ++ [Value.str q t2]).toArray 0) :: [(I, it), (lo, W.listOf vo.toArray no), (lp, W.listOf vp.toArray np)]) := by
    intro x hx
    refine N x ?_
    simp only [List.mem_cons, List.not_mem_nil, or_false] at hx ⊢
    rcases hx with h | h | h | h | h <;> simp [h]
  have hne : ∀ x ∈ (Ds, W.listOf (strValues l ++ [Value.str q t2]).toArray 0) :: [(I, it), (lo, W.listOf vo.toArray no), (lp, W.listOf vp.toArray np)], x.1 ≠ lt := by
    intro x hx
    simp only [List.mem_cons, List.not_mem_nil, or_false] at hx
    rcases hx with rfl | rfl | rfl | rfl
    · exact Nat.ne_of_gt hds
    · exact n1
    · exact n2
    · exact n3
  refine ext_call F N4 hne (by simp) (by rw [List.length_append, hsl]; simp; omega) ?_
  intro h4 F N
  refine then_next ?_
  refine st_nil ?_
  refine h h4 _ (vt ++ (strValues l ++ [Value.str q t2])) (strs_app st (strs_app (e ▸ SA) (.cons _ _ .nil))) F ?_
  intro x hx
  refine N x ?_
  simp only [List.mem_cons, List.not_mem_nil, or_false] at hx ⊢
  rcases hx with h | h | h | h <;> simp [h]
end

theorem tok_loop {w : World} {A : Around} {s : Shared} {h₀ : Heap} {L fa lt lo lp I : Addr} {cd : Value} {vo vp : List Value} {no np : Nat} {opds : List Opd} {ops : List Str} {p : Int} {tp tt : Tok} {tail : Str} {Q : Flow → Shared → Prop}
    (so : StrsAre vo (opds.map Opd.word)) (sp : StrsAre vp ops) (hl : opds.length = ops.length + 1) (hn : ops.length ≤ 63) (n1 : lt < I) (n2 : lo < lt) (n3 : lp < lt)
    (fin : ∀ m vt ct h tk, MB m lt lo lp p tp tail tt → StrsAre vt (tkn (opds.take ops.length) ops) → Fr h₀ L h m → News h₀ L h [(lt, W.listOf vt.toArray ct), (lo, W.listOf vo.toArray no), (lp, W.listOf vp.toArray np)] → Q .next { s with heap := h, toks := tk }) :
    ∀ (j i : Nat) (m : Str → Option Value) (vt : List Value) (ct : Nat), i + j = ops.length → MB m lt lo lp p tp tail tt → StrsAre vt (tkn (opds.take i) (ops.take i)) →
      RangeRest PG w A NoE h₀ (lEnv w L fa cd) "k" (tokBody w.params) Q s I 0 ops.length j i m [(lt, W.listOf vt.toArray ct), (lo, W.listOf vo.toArray no), (lp, W.listOf vp.toArray np)] := by
  intro j
  induction j with
  | zero =>
    intro i m vt ct hi V st
    refine RangeRest.zero ?_
    intro h tk F N
    have e : i = ops.length := by omega
    subst e
    rw [List.take_length] at st
    exact fin m vt ct h tk V st F N
  | succ j ih =>
    intro i m vt ct hi V st
    have ho : opds[i]? = some (opds[i]'(by omega)) := List.getElem?_eq_getElem _
    have hq : ops[i]? = some (ops[i]'(by omega)) := List.getElem?_eq_getElem _
    have hvl := strs_len st
    have htl := tkn_len (opds.take i) (ops.take i)
    rw [List.length_take] at htl
    refine RangeRest.succ ?_
    intro t h tk F N
    refine fr_abs F ?_
    clear F
    intro m' F hk km
    rw [Int.zero_add] at hk
    have V' : MB m' lt lo lp p tp tail tt := V.put km (by decide +kernel) (by decide +kernel) (by decide +kernel) (by decide +kernel) (by decide +kernel)
    refine tok_turn F N V' hk so sp st ho hq (by omega) (by omega) (Nat.ne_of_gt n1) (Nat.ne_of_lt n2) (Nat.ne_of_lt n3) ?_
    intro h' tk' vt' st' F N
    rw [← tkn_step ho hq] at st'
    refine unr_next ?_
    refine UnrEnd.intro F N [(lt, W.listOf vt'.toArray (ct + 1)), (lo, W.listOf vo.toArray no), (lp, W.listOf vp.toArray np)] (fun x hx => hx) ?_ (ih (i + 1) m' vt' (ct + 1) (by omega) V' st')
    intro x hx
    simp only [List.mem_cons, List.not_mem_nil, or_false] at hx
    rcases hx with rfl | rfl | rfl
    · exact Nat.ne_of_lt n1
    · exact Nat.ne_of_lt (Nat.lt_trans n2 n1)
    · exact Nat.ne_of_lt (Nat.lt_trans n3 n1)

theorem law_b {w : World} {mean : ExcName → Option Value} {mg mb : Str → Option Value} {A : Around} {h₀ : Heap} {L fa lo lp : Addr} {cd : Value} {m : Str → Option Value} {s : Shared} {vo vp : List Value} {no np : Nat} {opds : List Opd} {olast : Opd} {ops : List Str} {p : Int} {tp tt : Tok} {tail : Str} {Q : Flow → Shared → Prop}
    (hh : A.handled = none) (X : (KF w).In h₀) (T : Top hd.view_39 LO mean mg mb h₀) (so : StrsAre vo (opds.map Opd.word)) (sp : StrsAre vp ops) (hl : opds.length = ops.length + 1) (hlast : opds[ops.length]? = some olast) (hn : ops.length ≤ 63) (F : Fr h₀ L s.heap m)
    (N : News h₀ L s.heap [(lo, W.listOf vo.toArray no), (lp, W.listOf vp.toArray np)])
    (mops : m "ops" = some (.ref lp)) (mopd : m "operands" = some (.ref lo)) (mpri : m "priority" = some (.int p tp)) (mtl : m "tail" = some (.str tail tt))
    (h : ∀ h' m' tk' lt vt ct, MB m' lt lo lp p tp tail tt → StrsAre vt (tkn (opds.take ops.length) ops ++ (olast.toks ++ [tail, Str.ofString "n"])) → Fr h₀ L h' m' → News h₀ L h' [(lt, W.listOf vt.toArray ct), (lo, W.listOf vo.toArray no), (lp, W.listOf vp.toArray np)] →
      wpAny (model PG w) A (execs ((fnBody w.params 100).drop 9) (lEnv w L fa cd)) Q NoE { s with heap := h', toks := tk' }) :
    wpAny (model PG w) A (execs ((fnBody w.params 100).drop 6) (lEnv w L fa cd)) Q NoE s := by
  have hvp := strs_len sp
  have hvo := strs_len so
  rw [List.length_map] at hvo
  obtain ⟨t1, e1⟩ := strs_get so (i := ops.length) (x := olast.word) (by rw [List.getElem?_map, hlast]; rfl)
  have hwl := word_len olast
  have htl := toks_len olast
  refine st_asg ?_
  refine List_ ?_
  refine sp_nil ?_
  refine newList_K F N ?_ (by show 0 ≤ sizeLine; decide)
  intro lt h1 F N lt1
  have n2 : lo < lt := lt1 (lo, W.listOf vo.toArray no) (.head _)
  have n3 : lp < lt := lt1 (lp, W.listOf vp.toArray np) (.tail _ (.head _))
  refine stL F N ?_
  intro h2 m2 tk2 mtok k2 F N
  have V : MB m2 lt lo lp p tp tail tt := ⟨mtok, (k2 _ (by decide +kernel)).trans mops, (k2 _ (by decide +kernel)).trans mopd, (k2 _ (by decide +kernel)).trans mpri, (k2 _ (by decide +kernel)).trans mtl⟩
  clear k2
  refine st_cons ?_
  refine For_invVF F rfl rfl ?_
  refine Call_ ?_
  refine nameX_B F X (topRead_of T) (by rfl) (by boot_by_name) (by decide) ?_
  refine PyProof.Rows.callWith_type1 ?_
  refine sp_more nofun ?_
  refine Call_ ?_
  refine nameX_B F X (topRead_of T) (by rfl) (by boot_by_name) (by decide) ?_
  refine PyProof.Rows.callWith_builtin1 ?_
  refine sp_more nofun ?_
  refine nameX_L F V.ops ?_
  refine sp_nil ?_
  refine lenL (News.isList N (.tail _ (.tail _ (.head _)))) hvp (by omega) ?_
  intro _ _
  refine sp_nil ?_
  refine range1_rows F N ?_
  intro h3 tk3 ta tb tc hr F N up
  refine iter_rangeUnr (n := ops.length) hh hr (range_small _ (by omega)) (range_size _) F N ?_
  intro I ltI
  refine tok_loop (fa := fa) (cd := cd) so sp hl hn (ltI _ (.head _)) n2 n3 ?_ ops.length 0 m2 [] 0 (by omega) V .nil
  clear F N V hr up ltI I
  intro m vt ct h4 tk4 V st F N
  have hvl := strs_len st
  have htk := tkn_len (opds.take ops.length) ops
  refine then_next ?_
  -- tokens.extend(operands[-1].split() + [tail, 'n'])
  refine st_cons ?_
  refine wpAny_Expr_any ?_
  refine MethodCall_ ?_
  refine nameX_L F V.tok ?_
  refine kl_method N (.head _) PySem.F.slot_list_extend PySem.F.type_list_extend ?_
  refine callWith_method1 ?_
  refine sp_more nofun ?_
  refine wpAny_BinOp ?_
  refine MethodCall_ ?_
  refine Subscript_ ?_
  refine nameX_L F V.opd ?_
  refine wpAny_UnaryOp ?_
  refine cint ?_
  intro _ _
  refine PyProof.Rows.neg_int ?_
  refine item_last (n := ops.length) (News.isList N (.tail _ (.head _))) (by omega) e1 ?_
  refine GM.split ?_
  refine callWith_method0 ?_
  refine KSpl.split0 F N ?_ (by rw [sizeLine_eq]; omega)
  intro Dw l h5 tk5 e SA F N lt5
  rw [words_toks] at e
  refine List_ ?_
  refine sp_more nofun ?_
  refine nameX_L F V.tl ?_
  refine sp_more nofun ?_
  refine cstr ?_
  intro tn _
  refine sp_nil ?_
  refine newList_K F N ?_ (by show 2 ≤ sizeLine; decide)
  intro Dl h6 F N lt6
  have hsl : (strValues l).length = olast.toks.length := by rw [strs_len SA, e]
  refine kmk_add_lit (zs := strValues l ++ [.str tail tt, .str (Str.ofString "n") tn]) F N (News.isList N (.tail _ (.head _))) (News.isList N (.head _)) rfl ?_ (by show (strValues l).length + 2 ≤ sizeLine; rw [hsl, sizeLine_eq]; omega)
  intro Ds h7 F N lt7
  refine sp_nil ?_
  have hds : lt < Ds := lt7 (lt, W.listOf vt.toArray ct) (.tail _ (.tail _ (.head _)))
  have N4 : News h₀ L h7 ((lt, W.listOf vt.toArray ct) :: (Ds, W.listOf (strValues l ++ [Value.str tail tt, Value.str (Str.ofString "n") tn]).toArray 0) :: [(lo, W.listOf vo.toArray no), (lp, W.listOf vp.toArray np)]) := by
    intro x hx
    refine N x ?_
    simp only [List.mem_cons, List.not_mem_nil, or_false] at hx ⊢
    rcases hx with h | h | h | h <;> simp [h]
  have hne : ∀ x ∈ (Ds, W.listOf (strValues l ++ [Value.str tail tt, Value.str (Str.ofString "n") tn]).toArray 0) :: [(lo, W.listOf vo.toArray no), (lp, W.listOf vp.toArray np)], x.1 ≠ lt := by
    intro x hx
    simp only [List.mem_cons, List.not_mem_nil, or_false] at hx
    rcases hx with rfl | rfl | rfl
    · exact Nat.ne_of_gt hds
    · exact Nat.ne_of_lt n2
    · exact Nat.ne_of_lt n3
  refine ext_call F N4 hne (by simp) (by rw [List.length_append, hsl]; simp; omega) ?_
  intro h8 F N
  refine then_next ?_
  refine h h8 m _ lt (vt ++ (strValues l ++ [.str tail tt, .str (Str.ofString "n") tn])) (ct + 1) V (strs_app st (strs_app (e ▸ SA) (.cons _ _ (.cons _ _ .nil)))) F ?_
  intro x hx
  refine N x ?_
  simp only [List.mem_cons, List.not_mem_nil, or_false] at hx ⊢
  rcases hx with h | h | h <;> simp [h]
end Mine
end
section
open PySem PySem.W PyProof.Rows
set_option Elab.async false
set_option maxRecDepth 100000
set_option maxHeartbeats 4000000
namespace Mine
noncomputable abbrev lAr (w : World) (L fa : Addr) (cd : Value) : Around := ktrTop 302 7 (some []) "law" (lSc w) L fa cd (cellsFrom (L + 1) (lSc w).names []) []
noncomputable def lWhl (P : Params) : Stmt := (fnBody P 100).getD 10 (.Pass ⟨0, 0, 0, 0⟩)
section
variable {prog : Program} {w : World} {A : Around} {E : Value → Shared → Prop} {s : Shared} {Q : Value → Shared → Prop}
theorem geI {a b : Int} {t u : Tok} {c : Bool} (hc : decide (a ≥ b) = c) (h : Q (.bool c) s) : wpAny (model prog w) A (compareOp .GtE (.int a t) (.int b u)) Q E s := PyProof.Rows.ge_int (hc ▸ h)
theorem iaddI {a b : Int} {t u : Tok} (h : ∀ t tk, Q (.int (a + b) t) { s with toks := tk }) : wpAny (model prog w) A (inplaceOp .Add (.int a t) (.int b u)) Q E s := PyProof.Rows.iadd_int (h _ _)
end
section
variable {w : World} {mean : ExcName → Option Value} {mg mb : Str → Option Value} {h₀ base : Heap} {A₀ : Around} {L fa lt lo lp : Addr} {cd : Value} {vt vo vp : List Value} {ct no np : Nat} {od oc : List Str} {p : Int} {tp tt : Tok} {tail : Str} {Q : Flow → Shared → Prop}
theorem size_loop {s : Shared} (B : Below A₀ base [] h₀) (X : (KF w).In h₀) (T : Top hd.view_39 LO mean mg mb h₀) (sp : StrsAre vp (od ++ oc)) (hn : (od ++ oc).length ≤ 63) (hop : ∀ q ∈ od ++ oc, IsOp q) (hd1 : ∀ q ∈ od, p ≤ rk q) (hc1 : ∀ q ∈ oc.head?, rk q < p)
    (fin : ∀ m h tk ts, MB m lt lo lp p tp tail tt → m "size" = some (.int (od.length : Int) ts) → Fr h₀ L h m → News h₀ L h [(lt, W.listOf vt.toArray ct), (lo, W.listOf vo.toArray no), (lp, W.listOf vp.toArray np)] → Q .next { s with heap := h, toks := tk }) :
    ∀ (j i : Nat) (m : Str → Option Value) (h : Heap) (tk : Nat) (ts : Tok), i + j = od.length → MB m lt lo lp p tp tail tt → m "size" = some (.int (i : Int) ts) → Fr h₀ L h m → News h₀ L h [(lt, W.listOf vt.toArray ct), (lo, W.listOf vo.toArray no), (lp, W.listOf vp.toArray np)] →
      WhlRest PG w (lAr w L fa cd) NoE (lEnv w L fa cd) (wTest (lWhl w.params)) (wBody (lWhl w.params)) [] Q 0 { s with heap := h, toks := tk } := by
  have hvp := strs_len sp
  intro j
  induction j with
  | zero =>
    intro i m h tk ts hi V hs F N
    have hi' : i = od.length := by omega
    subst hi'
    refine whl_turn (k := 0) noE_passes ?_
    refine isTrue_and ?_
    refine wpAny_isTrue_Compare1 ?_
    refine nameX_L F hs ?_
    refine Call_ ?_
    refine nameX_B F X (topRead_of T) (by rfl) (by boot_by_name) (by decide) ?_
    refine PyProof.Rows.callWith_builtin1 ?_
    refine sp_more nofun ?_
    refine nameX_L F V.ops ?_
    refine sp_nil ?_
    refine lenL (News.isList N (.tail _ (.tail _ (.head _)))) hvp (by omega) ?_
    intro _ _
    cases oc with
    | nil =>
      refine ltI (decide_eq_false (by simp)) ?_
      refine truthyF rfl ?_
      refine ite_ff ?_
      refine WhlIf.no rfl ?_
      refine st_nil ?_
      exact fin m _ _ ts V hs F N
    | cons q oc =>
      obtain ⟨tq, eq⟩ := strs_get sp (i := od.length) (x := q) (by simp)
      refine ltI (decide_eq_true (by simp; omega)) ?_
      refine truthyT rfl ?_
      refine ite_tt ?_
      refine isTrue_and ?_
      refine wpAny_isTrue_Compare1 ?_
      refine Call_ ?_
      refine nameX_K F X (topRead_of T) (by rfl) ?_
      refine cw_ref X (by rfl) ?_
      refine sp_more nofun ?_
      refine Subscript_ ?_
      refine nameX_L F V.ops ?_
      refine nameX_L F hs ?_
      refine item_at (News.isList N (.tail _ (.tail _ (.head _)))) (by omega) (by simp at hn; omega) (v := .str q tq) (by rw [Int.toNat_natCast]; exact eq) ?_
      refine sp_nil ?_
      refine ⟨F.keep, ?_⟩
      refine Ctr.use (rank_ok (hop q (List.mem_append_right _ (.head _)))) B X T rfl (by decide) (by decide) F N ?_
      intro r tl h' tk' ho F N
      obtain ⟨rfl, t', rfl⟩ := ho
      refine nameX_L F V.pri ?_
      refine geI (decide_eq_false (by have := hc1 q rfl; omega)) ?_
      refine truthyF rfl ?_
      refine ite_ff ?_
      refine WhlIf.no rfl ?_
      refine st_nil ?_
      exact fin m _ _ ts V hs F N
  | succ j ih =>
    intro i m h tk ts hi V hs F N
    have hlt : i < od.length := by omega
    have eo : (od ++ oc)[i]? = some (od[i]) := by rw [List.getElem?_append_left hlt]; exact List.getElem?_eq_getElem _
    have hm : od[i] ∈ od := List.getElem_mem _
    obtain ⟨tq, eq⟩ := strs_get sp eo
    refine whl_turn (k := 0) noE_passes ?_
    refine isTrue_and ?_
    refine wpAny_isTrue_Compare1 ?_
    refine nameX_L F hs ?_
    refine Call_ ?_
    refine nameX_B F X (topRead_of T) (by rfl) (by boot_by_name) (by decide) ?_
    refine PyProof.Rows.callWith_builtin1 ?_
    refine sp_more nofun ?_
    refine nameX_L F V.ops ?_
    refine sp_nil ?_
    refine lenL (News.isList N (.tail _ (.tail _ (.head _)))) hvp (by omega) ?_
    intro _ _
    refine ltI (decide_eq_true (by simp; omega)) ?_
    refine truthyT rfl ?_
    refine ite_tt ?_
    refine isTrue_and ?_
    refine wpAny_isTrue_Compare1 ?_
    refine Call_ ?_
    refine nameX_K F X (topRead_of T) (by rfl) ?_
    refine cw_ref X (by rfl) ?_
    refine sp_more nofun ?_
    refine Subscript_ ?_
    refine nameX_L F V.ops ?_
    refine nameX_L F hs ?_
    refine item_at (News.isList N (.tail _ (.tail _ (.head _)))) (by omega) (by simp at hn; omega) (v := .str od[i] tq) (by rw [Int.toNat_natCast]; exact eq) ?_
    refine sp_nil ?_
    refine ⟨F.keep, ?_⟩
    refine Ctr.use (rank_ok (hop _ (List.mem_append_left _ hm))) B X T rfl (by decide) (by decide) F N ?_
    intro r tl h' tk' ho F N
    obtain ⟨rfl, t', rfl⟩ := ho
    refine nameX_L F V.pri ?_
    refine geI (decide_eq_true (by have := hd1 _ hm; omega)) ?_
    refine truthyT rfl ?_
    refine ite_tt ?_
    refine isTrue_and_nil ?_
    refine WhlIf.yes rfl ?_
    refine st_aug ?_
    refine ldX F hs ?_
    refine cint ?_
    intro _ _
    refine iaddI ?_
    intro ts' _
    refine stL F N ?_
    intro h2 m2 tk2 hs2 k2 F N
    refine st_nil ?_
    exact ih (i + 1) m2 h2 tk2 ts' (by omega) (V.put k2 (by decide +kernel) (by decide +kernel) (by decide +kernel) (by decide +kernel) (by decide +kernel)) hs2 F N
theorem law_c {s : Shared} {m : Str → Option Value} (B : Below A₀ base [] h₀) (X : (KF w).In h₀) (T : Top hd.view_39 LO mean mg mb h₀) (sp : StrsAre vp (od ++ oc)) (hn : (od ++ oc).length ≤ 63) (hop : ∀ q ∈ od ++ oc, IsOp q) (hd1 : ∀ q ∈ od, p ≤ rk q) (hc1 : ∀ q ∈ oc.head?, rk q < p)
    (V : MB m lt lo lp p tp tail tt) (F : Fr h₀ L s.heap m) (N : News h₀ L s.heap [(lt, W.listOf vt.toArray ct), (lo, W.listOf vo.toArray no), (lp, W.listOf vp.toArray np)])
    (h : ∀ h' m' tk' ts, MB m' lt lo lp p tp tail tt → m' "size" = some (.int (od.length : Int) ts) → Fr h₀ L h' m' → News h₀ L h' [(lt, W.listOf vt.toArray ct), (lo, W.listOf vo.toArray no), (lp, W.listOf vp.toArray np)] →
      wpAny (model PG w) (lAr w L fa cd) (execs ((fnBody w.params 100).drop 11) (lEnv w L fa cd)) Q NoE { s with heap := h', toks := tk' }) :
    wpAny (model PG w) (lAr w L fa cd) (execs ((fnBody w.params 100).drop 9) (lEnv w L fa cd)) Q NoE s := by
  refine st_asg ?_
  refine cint ?_
  intro ts _
  refine stL F N ?_
  intro h1 m1 tk1 hs k1 F N
  refine st_cons ?_
  refine whl_start 0 ?_
  refine size_loop B X T sp hn hop hd1 hc1 ?_ od.length 0 m1 h1 tk1 ts (by omega) (V.put k1 (by decide +kernel) (by decide +kernel) (by decide +kernel) (by decide +kernel) (by decide +kernel)) hs F N
  intro m2 h2 tk2 ts2 V2 hs2 F N
  refine then_next ?_
  exact h h2 m2 tk2 ts2 V2 hs2 F N
end
end Mine
end
section
open PySem PySem.W PyProof.Rows
set_option Elab.async false
set_option maxRecDepth 100000
set_option maxHeartbeats 4000000
namespace Mine
def txt (n : Str) : Str := if n = "017" then "17" else Txt.replace n "!" "not"
theorem txt_word (o : Opd) : txt o.word = o.text := by cases o <;> decide +kernel
section
variable {w : World} {mean : ExcName → Option Value} {mg mb : Str → Option Value} {h₀ base : Heap} {A₀ : Around} {L fa lt lo lp : Addr} {cd : Value} {vt vo vp : List Value} {ct no np : Nat} {opds : List Opd} {od oc : List Str} {p : Int} {tp tt : Tok} {tail : Str} {Q : Flow → Shared → Prop}
theorem law_d1 {s : Shared} {m : Str → Option Value} {ts : Tok} (X : (KF w).In h₀) (T : Top hd.view_39 LO mean mg mb h₀) (so : StrsAre vo (opds.map Opd.word)) (hl : opds.length ≤ 64)
    (V : MB m lt lo lp p tp tail tt) (hs : m "size" = some (.int (od.length : Int) ts)) (F : Fr h₀ L s.heap m) (N : News h₀ L s.heap [(lt, W.listOf vt.toArray ct), (lo, W.listOf vo.toArray no), (lp, W.listOf vp.toArray np)])
    (h : ∀ h' m' tk' lx vx nx, MB m' lt lo lp p tp tail tt → m' "size" = some (.int (od.length : Int) ts) → m' "texts" = some (.ref lx) → StrsAre vx ((opds.take (od.length + 1)).map Opd.text) → Fr h₀ L h' m' →
      News h₀ L h' [(lx, W.listOf vx.toArray nx), (lt, W.listOf vt.toArray ct), (lo, W.listOf vo.toArray no), (lp, W.listOf vp.toArray np)] →
      wpAny (model PG w) (lAr w L fa cd) (execs ((fnBody w.params 100).drop 12) (lEnv w L fa cd)) Q NoE { s with heap := h', toks := tk' }) :
    wpAny (model PG w) (lAr w L fa cd) (execs ((fnBody w.params 100).drop 11) (lEnv w L fa cd)) Q NoE s := by
  have hvo := strs_len so
  rw [List.length_map] at hvo
  refine st_cons ?_
  refine LCg.Assign_ListComp_U (cl := []) F rfl (by with_unfolding_all rfl) (by rfl) (by decide) rfl (by decide) rfl rfl rfl ?_
  refine sl_upto ?_
  refine nameX_L F V.opd ?_
  refine wpAny_BinOp ?_
  refine nameX_L F hs ?_
  refine cint ?_
  intro _ _
  refine addI ?_
  intro _ _
  refine ⟨lo, vo, _, _, _, _, _, _, rfl, rfl, by omega, News.isList N (.tail _ (.head _)), by rw [hvo, sizeLine_eq]; omega, F, N, ?_⟩
  intro D1 h1 F N lt1
  have ek : ((od.length : Int) + 1).toNat = od.length + 1 := by omega
  rw [ek] at N
  have so1 : StrsAre (vo.take (od.length + 1)) (((opds.take (od.length + 1)).map Opd.word)) := by
    have e := strs_take so (od.length + 1)
    rw [← List.map_take] at e
    exact e
  have hwl : ∀ x ∈ (opds.take (od.length + 1)).map Opd.word, x.length ≤ 3 := fun x hx => (List.mem_map.mp hx).elim fun o ho => ho.2 ▸ word_len o
  refine LCg.CompSrc.ledger rfl F N (.head _) ?_ ?_
  · rw [List.size_toArray, List.length_take, hvo, sizeLine_eq]; omega
  intro g1
  refine comp_US so1 (fun i ys => StrsAre ys ((((opds.take (od.length + 1)).map Opd.word).take i).map txt)) ?_ ?_ .nil (.inr ⟨_, .head _, rfl, _, rfl⟩)
  · intro i x t I C D oI oC m₂ h tk ys E' ex hy hC hx F N
    have hxl := hwl x (List.mem_of_getElem? ex)
    refine IfExp_ ?_
    refine wpAny_isTrue_Compare1 ?_
    refine LCgL.ld_own N (.tail _ (.head _)) hC hx ?_
    refine Calls.Constant_str ?_
    refine eqS rfl ?_
    refine (Bool.eq_false_or_eq_true (x == Str.ofString "017")).elim (fun hb => ?_) (fun hb => ?_)
    · refine truthyT hb ?_
      refine ite_tt ?_
      refine cstr ?_
      intro t' tk'
      have et : txt x = Str.ofString "17" := if_pos (eq_of_beq hb)
      refine ⟨_, _, rfl, F, N, ?_⟩
      rw [List.take_add_one, ex, List.map_append, ← et]
      exact strs_snoc hy
    · refine truthyF hb ?_
      refine ite_ff ?_
      refine MethodCall_ ?_
      refine LCgL.ld_own N (.tail _ (.head _)) hC hx ?_
      refine GM.replace ?_
      refine callWith_method1 ?_
      refine sp_str ?_
      refine sp_str ?_
      refine sp_nil ?_
      refine SC.replaceW (by show tk + 1 ≠ 0; omega) (by show tk + 1 + 1 ≠ 0; omega) (by show tk + 1 ≠ tk + 1 + 1; omega) (by decide +kernel) (by omega) (by decide +kernel) ?_
      intro t' tk'
      have et : txt x = Txt.replace x (Str.ofString "!") (Str.ofString "not") := if_neg (ne_of_beq_false hb)
      refine ⟨_, _, rfl, F, N, ?_⟩
      rw [List.take_add_one, ex, List.map_append, ← et]
      exact strs_snoc hy
  intro vx hvx
  rw [List.take_length, List.map_map, show (txt ∘ Opd.word) = Opd.text from funext txt_word] at hvx
  intro lx h2 tk2 F N off
  refine then_next ?_
  refine fr_abs F ?_
  clear F
  intro m2 F hx2 k2
  refine h h2 m2 tk2 lx vx vx.length (V.put k2 (by decide +kernel) (by decide +kernel) (by decide +kernel) (by decide +kernel) (by decide +kernel)) ((k2 _ (by decide +kernel)).trans hs) hx2 hvx F ?_
  exact fun x hx => (List.mem_cons.mp hx).elim (fun e => e ▸ N _ (.head _)) fun hx => N _ (.tail _ (.tail _ hx))
theorem law_d2 {s : Shared} {m : Str → Option Value} {ts : Tok} {lx : Addr} {vx : List Value} {nx : Nat} {os : List Str} {t : Str} {wk : Int} (B : Below A₀ base [] h₀) (X : (KF w).In h₀) (T : Top hd.view_39 LO mean mg mb h₀) (sp : StrsAre vp (od ++ oc)) (hn : (od ++ oc).length ≤ 63) (sx : StrsAre vx os) (ho5 : ∀ o ∈ os, o.length ≤ 5)
    (Wo : Words os od t wk) (ht : t.length ≤ 4000) (V : MB m lt lo lp p tp tail tt) (hs : m "size" = some (.int (od.length : Int) ts)) (hx : m "texts" = some (.ref lx)) (F : Fr h₀ L s.heap m)
    (N : News h₀ L s.heap [(lx, W.listOf vx.toArray nx), (lt, W.listOf vt.toArray ct), (lo, W.listOf vo.toArray no), (lp, W.listOf vp.toArray np)])
    (h : ∀ h' m' tk' tw, MB m' lt lo lp p tp tail tt → m' "size" = some (.int (od.length : Int) ts) → m' "words" = some (.str (if p = 4 ∧ wk = 4 then par t else t) tw) → Fr h₀ L h' m' →
      News h₀ L h' [(lt, W.listOf vt.toArray ct), (lo, W.listOf vo.toArray no), (lp, W.listOf vp.toArray np)] →
      wpAny (model PG w) (lAr w L fa cd) (execs ((fnBody w.params 100).drop 14) (lEnv w L fa cd)) Q NoE { s with heap := h', toks := tk' }) :
    wpAny (model PG w) (lAr w L fa cd) (execs ((fnBody w.params 100).drop 12) (lEnv w L fa cd)) Q NoE s := by
  have hvp := strs_len sp
  have hodl : od.length ≤ 63 := by rw [List.length_append] at hn; omega
  have ek : ((od.length : Int)).toNat = od.length := by omega
  have sps : StrsAre (vp.take ((od.length : Int)).toNat) od := by
    have e := strs_take sp od.length
    rw [List.take_left] at e
    rw [ek]; exact e
  refine st_cons ?_
  refine Assign_Tuple ?_
  refine Call_ ?_
  refine nameX_K F X (topRead_of T) (by rfl) ?_
  refine cw_ref X (by rfl) ?_
  refine sp_more nofun ?_
  refine nameX_L F hx ?_
  refine sp_more nofun ?_
  refine sl_upto ?_
  refine nameX_L F V.ops ?_
  refine nameX_L F hs ?_
  refine ⟨lp, vp, _, _, _, _, _, _, rfl, rfl, by omega, News.isList N (.tail _ (.tail _ (.tail _ (.head _)))), by rw [hvp, sizeLine_eq]; omega, F, N, ?_⟩
  intro D1 h1 F N lt1
  refine sp_nil ?_
  refine ⟨F.keep, ?_⟩
  refine Ctr.use (words_ok Wo ho5 hodl (.tail _ (.head _)) (.head _) sx sps) B X T rfl ?_ ?_ F N ?_
  · show 302 + (od.length + 20) < 1000
    omega
  · show 7 + 8 * (od.length + 20) < 9900
    omega
  intro r tl h2 tk2 hout F N
  obtain ⟨a, t1, t2, rfl, rfl⟩ := hout
  refine unpackN_ F N (News.isTup N (.head _)) rfl rfl rfl ?_
  intro h3 F N
  replace N : News h₀ L h3 [(lt, W.listOf vt.toArray ct), (lo, W.listOf vo.toArray no), (lp, W.listOf vp.toArray np)] := fun x hx => N x (.tail _ (.tail _ (.tail _ hx)))
  refine assignInOrder_cons ?_
  refine wpAny_assign_Name ?_
  refine stL F N ?_
  intro h4 m4 tk4 hwd k4 F N
  replace V := V.put k4 (by decide +kernel) (by decide +kernel) (by decide +kernel) (by decide +kernel) (by decide +kernel)
  replace hs := (k4 _ (by decide +kernel)).trans hs
  clear k4
  refine assignInOrder_cons ?_
  refine wpAny_assign_Name ?_
  refine stL F N ?_
  intro h5 m5 tk5 hwk k5 F N
  replace V := V.put k5 (by decide +kernel) (by decide +kernel) (by decide +kernel) (by decide +kernel) (by decide +kernel)
  replace hs := (k5 _ (by decide +kernel)).trans hs
  replace hwd := (k5 _ (by decide +kernel)).trans hwd
  clear k5
  refine assignInOrder_nil ?_
  refine then_next ?_
  refine st_if ?_
  refine isTrue_and ?_
  refine wpAny_isTrue_Compare1 ?_
  refine nameX_L F V.pri ?_
  refine cint ?_
  intro _ _
  refine eqI rfl ?_
  refine (Bool.eq_false_or_eq_true (p == 4)).elim (fun hb => ?_) (fun hb => ?_)
  · refine truthyT hb ?_
    refine ite_tt ?_
    refine isTrue_and ?_
    refine wpAny_isTrue_Compare1 ?_
    refine nameX_L F hwk ?_
    refine cint ?_
    intro _ _
    refine eqI rfl ?_
    refine (Bool.eq_false_or_eq_true (wk == 4)).elim (fun hc => ?_) (fun hc => ?_)
    · refine truthyT hc ?_
      refine ite_tt ?_
      refine isTrue_and_nil ?_
      have e : (if p = 4 ∧ wk = 4 then par t else t) = par t := if_pos ⟨eq_of_beq hb, eq_of_beq hc⟩
      rw [e] at h
      refine st_asg ?_
      refine wpAny_BinOp ?_
      refine wpAny_BinOp ?_
      refine cstr ?_
      intro _ _
      refine nameX_L F hwd ?_
      refine addS ?_ ?_
      · rw [show (PySem.Str.ofString "(").length = 1 by decide +kernel]; omega
      intro _ _
      refine cstr ?_
      intro _ _
      refine addS ?_ ?_
      · rw [Str.length_append, show (PySem.Str.ofString "(").length = 1 by decide +kernel, show (PySem.Str.ofString ")").length = 1 by decide +kernel]; omega
      intro tw _
      refine stL F N ?_
      intro h6 m6 tk6 hw6 k6 F N
      refine st_nil ?_
      refine then_next ?_
      exact h h6 m6 tk6 tw (V.put k6 (by decide +kernel) (by decide +kernel) (by decide +kernel) (by decide +kernel) (by decide +kernel)) ((k6 _ (by decide +kernel)).trans hs) hw6 F N
    · refine truthyF hc ?_
      refine ite_ff ?_
      have e : (if p = 4 ∧ wk = 4 then par t else t) = t := if_neg fun q => by rw [q.2] at hc; exact absurd hc (by decide)
      rw [e] at h
      refine st_nil ?_
      refine then_next ?_
      exact h _ m5 _ t1 V hs hwd F N
  · refine truthyF hb ?_
    refine ite_ff ?_
    have e : (if p = 4 ∧ wk = 4 then par t else t) = t := if_neg fun q => by rw [q.1] at hb; exact absurd hb (by decide)
    rw [e] at h
    refine st_nil ?_
    refine then_next ?_
    exact h _ m5 _ t1 V hs hwd F N
end
end Mine
end
section
open PySem PySem.W PyProof.Rows
set_option Elab.async false
set_option maxRecDepth 100000
set_option maxHeartbeats 4000000
namespace Mine
theorem sum_nat (l : List Opd) : (l.map (fun o => ((o.toks.length : Nat) : Int))).sum = (((l.map (fun o => o.toks.length)).sum : Nat) : Int) := by
  induction l with
  | nil => rfl
  | cons o l ih => simp only [List.map_cons, List.sum_cons, ih]; omega
section
variable {w : World} {mean : ExcName → Option Value} {mg mb : Str → Option Value} {h₀ base : Heap} {A₀ : Around} {L fa lt lo lp : Addr} {cd : Value} {vt vo vp : List Value} {ct no np : Nat} {opds : List Opd} {n : Nat} {p : Int} {tp tt : Tok} {tail : Str} {Q : Flow → Shared → Prop}
theorem law_e {s : Shared} {m : Str → Option Value} {ts tw : Tok} {wd : Str} (X : (KF w).In h₀) (T : Top hd.view_39 LO mean mg mb h₀) (so : StrsAre vo (opds.map Opd.word)) (hl : opds.length ≤ 64)
    (V : MB m lt lo lp p tp tail tt) (hs : m "size" = some (.int (n : Int) ts)) (hw : m "words" = some (.str wd tw)) (F : Fr h₀ L s.heap m) (N : News h₀ L s.heap [(lt, W.listOf vt.toArray ct), (lo, W.listOf vo.toArray no), (lp, W.listOf vp.toArray np)])
    (h : ∀ h' m' tk' tx, m' "tokens" = some (.ref lt) → m' "priority" = some (.int p tp) → m' "words" = some (.str wd tw) → m' "taken" = some (.int ((((opds.take (n + 1)).map (fun o => o.toks.length)).sum + n : Nat) : Int) tx) → Fr h₀ L h' m' →
      News h₀ L h' [(lt, W.listOf vt.toArray ct)] → wpAny (model PG w) (lAr w L fa cd) (execs ((fnBody w.params 100).drop 15) (lEnv w L fa cd)) Q NoE { s with heap := h', toks := tk' }) :
    wpAny (model PG w) (lAr w L fa cd) (execs ((fnBody w.params 100).drop 14) (lEnv w L fa cd)) Q NoE s := by
  have hvo := strs_len so
  rw [List.length_map] at hvo
  refine st_asg ?_
  refine wpAny_BinOp ?_
  refine Call_ ?_
  refine nameX_B F X (topRead_of T) (by rfl) (by boot_by_name) (by decide) ?_
  refine PyProof.Rows.callWith_builtin1 ?_
  refine sp_more nofun ?_
  refine LCg.ListComp_U F (by rfl) (by decide) rfl (by decide) rfl ?_
  refine sl_upto ?_
  refine nameX_L F V.opd ?_
  refine wpAny_BinOp ?_
  refine nameX_L F hs ?_
  refine cint ?_
  intro _ _
  refine addI ?_
  intro _ _
  refine ⟨lo, vo, _, _, _, _, _, _, rfl, rfl, by omega, News.isList N (.tail _ (.head _)), by rw [hvo, sizeLine_eq]; omega, F, N, ?_⟩
  intro D1 h1 F N lt1
  have ek : ((n : Int) + 1).toNat = n + 1 := by omega
  rw [ek] at N
  have so1 : StrsAre (vo.take (n + 1)) (((opds.take (n + 1)).map Opd.word)) := by
    have e := strs_take so (n + 1)
    rw [← List.map_take] at e
    exact e
  have hwl : ∀ x ∈ (opds.take (n + 1)).map Opd.word, x.length ≤ 3 := fun x hx => (List.mem_map.mp hx).elim fun o ho => ho.2 ▸ word_len o
  have hww : ∀ x ∈ (opds.take (n + 1)).map Opd.word, (Txt.words x).length ≤ 2 := fun x hx => (List.mem_map.mp hx).elim fun o ho => ho.2 ▸ (by rw [words_toks]; exact (toks_len o).2)
  refine LCg.CompSrc.ledger rfl F N (.head _) ?_ ?_
  · rw [List.size_toArray, List.length_take, hvo, sizeLine_eq]; omega
  intro g1
  refine comp_US so1 (fun i ys => IntsAre ys ((((opds.take (n + 1)).map Opd.word).take i).map (fun x => (((Txt.words x).length : Nat) : Int)))) ?_ ?_ .nil (.inr ⟨_, .head _, rfl, _, rfl⟩)
  · intro i x t I C D oI oC m₂ h tk ys E' ex hy hC hx F N
    have hxl := hwl x (List.mem_of_getElem? ex)
    have hx2 := hww x (List.mem_of_getElem? ex)
    refine Call_ ?_
    refine LCgL.ld_built F X T (by rfl) (by boot_by_name) (by decide) ?_
    refine PyProof.Rows.callWith_builtin1 ?_
    refine sp_more nofun ?_
    refine MethodCall_ ?_
    refine LCgL.ld_own N (.tail _ (.head _)) hC hx ?_
    refine GM.split ?_
    refine callWith_method0 ?_
    refine KSpl.split0 F N ?_ (by rw [sizeLine_eq]; omega)
    intro Dw l h5 tk5 e SA F N lt5
    refine sp_nil ?_
    refine lenL (n := (Txt.words x).length) (News.isList N (.head _)) (by rw [strs_len SA, e]) (by omega) ?_
    intro t' tk'
    refine ⟨_, _, rfl, F, news_tail N, ?_⟩
    rw [List.take_add_one, ex, List.map_append]
    exact ints_snoc hy
  intro vz hvz
  rw [List.take_length, List.map_map] at hvz
  have esum : (List.map ((fun x => (((Txt.words x).length : Nat) : Int)) ∘ Opd.word) (opds.take (n + 1))).sum = (((opds.take (n + 1)).map (fun o => o.toks.length)).sum : Nat) := by
    rw [← sum_nat]
    congr 1
    refine List.map_congr_left fun o _ => ?_
    show (((Txt.words o.word).length : Nat) : Int) = _
    rw [words_toks]
  intro D h2 tk2 F N off
  refine sp_nil ?_
  refine LSm.sum_ints F N rfl (News.isList N (.head _)) hvz ?_
  intro h3 tk3 _ F N
  refine nameX_L F hs ?_
  refine addI ?_
  intro tx _
  refine stL F N ?_
  intro h4 m4 tk4 htk k4 F N
  rw [esum] at htk
  refine h h4 m4 tk4 tx ((k4 _ (by decide +kernel)).trans V.tok) ((k4 _ (by decide +kernel)).trans V.pri) ((k4 _ (by decide +kernel)).trans hw) ?_ F ?_
  · rw [htk]; push_cast; rfl
  · exact fun x hx => N x ((List.mem_cons.mp hx).elim (fun e => e ▸ .tail _ (.tail _ (.head _))) fun hx => nomatch hx)
end
end Mine
end
section
open PySem PySem.W PyProof.Rows
set_option Elab.async false
set_option maxRecDepth 100000
set_option maxHeartbeats 4000000
namespace Mine
theorem str_tup_shaped (ns : List Str) (h : ∀ u ∈ ns, PyData.strOk u = true) : SeqAt.shaped (.tuple (ns.map PyData.str)) = true := by
  simp [SeqAt.shaped, PyData.canLay0, PyData.depth, str_canLayAll0 ns h, str_depthAll]
theorem eq_pair {prog : Program} {w : World} {A : Around} {E : Value → Shared → Prop} {s : Shared} {a b : Addr} {x y : Str} {t1 t2 t3 t4 : Tok} {Q : Value → Shared → Prop} (ha : s.heap.get? a = some (tupOf [.str x t1, .str y t2])) (hb : s.heap.get? b = some (tupOf [.str x t3, .str y t4]))
    (ok1 : PyData.strOk x = true) (ok2 : PyData.strOk y = true) (hu : A.units + 64 < cLine) (h : Q (.bool true) s) : wpAny (model prog w) A (compareOp .Eq (.ref a) (.ref b)) Q E s := by
  have sh : SeqAt.shaped (.tuple [.str x, .str y]) = true := str_tup_shaped [x, y] (by
    intro u hu
    rcases List.mem_cons.mp hu with rfl | hu
    · exact ok1
    · rw [List.mem_singleton.mp hu]; exact ok2)
  refine eq_dataH_same (reads_tuple_at ha rfl rfl (xs := [.str x, .str y]) (readsAll_cons_val (.str _ _) (readsAll_cons_val (.str _ _) .nil))) (reads_tuple_at hb rfl rfl (xs := [.str x, .str y]) (readsAll_cons_val (.str _ _) (readsAll_cons_val (.str _ _) .nil))) sh sh hu rfl ?_
  have e : PySem.Spec.same (.tuple [.str x, .str y]) (.tuple [.str x, .str y]) = true := by simp [PySem.Spec.same, PySem.Spec.sameAll]
  rw [e]; exact h
section
variable {w : World} {mean : ExcName → Option Value} {mg mb : Str → Option Value} {h₀ base : Heap} {A₀ : Around} {L fa lt : Addr} {cd : Value} {vt : List Value} {ct taken : Nat} {p : Int} {tp tw tx : Tok} {toks : List Str} {wd y' : Str} {ts' : List Str} {Q : Flow → Shared → Prop}
theorem law_f {s : Shared} {m : Str → Option Value} (B : Below A₀ base [] h₀) (X : (KF w).In h₀) (T : Top hd.view_39 LO mean mg mb h₀) (PC : PCtr w mean mg mb toks toks p wd y' ts') (st : StrsAre vt toks) (hget : toks[taken]? = some y') (hdr : toks.drop (taken + 1) = ts') (hts : ts' ≠ [])
    (okw : PyData.strOk wd = true) (okt : ∀ u ∈ toks, PyData.strOk u = true) (hlen : toks.length ≤ 1000) (hp : -1 ≤ p)
    (mtok : m "tokens" = some (.ref lt)) (mpri : m "priority" = some (.int p tp)) (mwd : m "words" = some (.str wd tw)) (mtk : m "taken" = some (.int (taken : Int) tx)) (F : Fr h₀ L s.heap m) (N : News h₀ L s.heap [(lt, W.listOf vt.toArray ct)])
    (h : ∀ h' m' tk', Fr h₀ L h' m' → Q (.ret (.bool true)) { s with heap := h', toks := tk' }) :
    wpAny (model PG w) (lAr w L fa cd) (execs ((fnBody w.params 100).drop 15) (lEnv w L fa cd)) Q NoE s := by
  have hvt := strs_len st
  obtain ⟨ty, ey⟩ := strs_get st hget
  have htl : taken < 1000 := by
    have := (List.getElem?_eq_some_iff.mp hget).1
    omega
  refine st_asg ?_
  refine Call_ ?_
  refine nameX_B F X (topRead_of T) (by rfl) (by boot_by_name) (by decide) ?_
  refine PyProof.Rows.callWith_builtin1 ?_
  refine sp_more nofun ?_
  refine nameX_L F mtok ?_
  refine sp_nil ?_
  refine iterL F N (.head _) ?_
  intro it h1 io hit F N lt1
  refine stL F N ?_
  intro h2 m2 tk2 hg k2 F N
  have hne : ∀ q ∈ [(lt, W.listOf vt.toArray ct)], q.1 ≠ it := fun q hq => Nat.ne_of_lt (lt1 q hq)
  have mtok2 := (k2 _ (by decide +kernel)).trans mtok
  have mpri2 := (k2 _ (by decide +kernel)).trans mpri
  have mwd2 := (k2 _ (by decide +kernel)).trans mwd
  have mtk2 := (k2 _ (by decide +kernel)).trans mtk
  clear k2
  refine st_asg ?_
  refine Call_ ?_
  refine nameX_K F X (topRead_of T) (by rfl) ?_
  refine cw_ref X (by rfl) ?_
  refine sp_more nofun ?_
  refine nameX_L F hg ?_
  refine sp_more nofun ?_
  refine nameX_L F mpri2 ?_
  refine sp_nil ?_
  refine ⟨F.keep, ?_⟩
  refine PC it lt vt ct 0 io _ tp _ _ _ _ _ _ _ _ _ _ _ _ _ _ _ _ _ B ⟨X, T⟩ rfl ?_ ?_ F N hne hit (.head _) st rfl ?_
  · show 302 + (9 - p).toNat < 1000
    omega
  · show 7 + 8 * (9 - p).toNat < 9900
    omega
  clear N hit
  intro b tt tz io i h3 tk3 hit hdi F N
  have hile : i ≤ vt.length := by
    rw [hvt]
    refine Nat.le_of_lt (Nat.lt_of_not_le fun hle => hts ?_)
    rw [← hdi, List.drop_eq_nil_of_le hle]
  refine stL F N ?_
  intro h4 m4 tk4 hto k4 F N
  have hg4 := (k4 _ (by decide +kernel)).trans hg
  have mtok4 := (k4 _ (by decide +kernel)).trans mtok2
  have mwd4 := (k4 _ (by decide +kernel)).trans mwd2
  have mtk4 := (k4 _ (by decide +kernel)).trans mtk2
  clear k4
  refine st_ret ?_
  refine BoolOp_and ?_
  refine wpAny_Compare1 ?_
  refine nameX_L F hto ?_
  refine Tuple_ ?_
  refine sp_more nofun ?_
  refine nameX_L F mwd4 ?_
  refine sp_more nofun ?_
  refine Subscript_ ?_
  refine nameX_L F mtok4 ?_
  refine nameX_L F mtk4 ?_
  refine item_at (News.isList N (.tail _ (.tail _ (.head _)))) (by omega) (by omega) (v := .str y' ty) (by rw [Int.toNat_natCast]; exact ey) ?_
  refine sp_nil ?_
  refine kup_newTuple F N ?_ (by rw [sizeLine_eq]; simp)
  intro D h5 F N ltD
  refine eq_pair (N _ (.tail _ (.head _))).1 (N _ (.head _)).1 okw (okt _ (List.mem_of_getElem? hget)) ?_ ?_
  · show 7 + 64 < 9900
    omega
  refine truthyT rfl ?_
  refine ite_tt ?_
  refine BoolOp_one ?_
  refine wpAny_Compare1 ?_
  refine Call_ ?_
  refine nameX_B F X (topRead_of T) (by rfl) (by boot_by_name) (by decide) ?_
  refine PyProof.Rows.callWith_type1 ?_
  refine sp_more nofun ?_
  refine nameX_L F hg4 ?_
  refine sp_nil ?_
  have N' : News h₀ L h5 [(it, io), (lt, W.listOf vt.toArray ct)] := fun x hx => N x (.tail _ (.tail _ hx))
  refine listL rfl F N' hne hit (.head _) hile (by rw [hvt, sizeLine_eq]; omega) ?_
  intro D2 c2 h6 tk6 F N2
  refine sl_from ?_
  refine nameX_L F mtok4 ?_
  refine wpAny_BinOp ?_
  refine nameX_L F mtk4 ?_
  refine cint ?_
  intro _ _
  refine addI ?_
  intro _ _
  refine ⟨lt, vt, _, _, _, _, _, _, rfl, rfl, by omega, News.isList N2 (.tail _ (.head _)), by rw [hvt, sizeLine_eq]; omega, F, N2, ?_⟩
  intro D3 h7 F N3 lt3
  have ek : ((taken : Int) + 1).toNat = taken + 1 := by omega
  refine eq_strs (us := toks.drop i) (vs := toks.drop (taken + 1)) (r := true) (News.isList N3 (.tail _ (.head _))) (News.isList N3 (.head _)) (strs_drop st i) ?_ (fun u hu => okt u (List.mem_of_mem_drop hu)) (fun u hu => okt u (List.mem_of_mem_drop hu)) ?_ ?_ ?_
  · rw [ek]; exact strs_drop st _
  · rw [hdi, hdr]; simp
  · show 7 + 64 < 9900
    omega
  exact h _ _ _ F
end
end Mine
end
section
open PySem PySem.W PyProof.Rows
set_option Elab.async false
set_option maxRecDepth 100000
set_option maxHeartbeats 4000000
namespace Mine
theorem tkn_strm (base : List Str) (olast : Opd) : ∀ (ops : List Str) (o0 : Opd) (otl : List Opd), otl.length = ops.length → (o0 :: otl)[ops.length]? = some olast →
    tkn ((o0 :: otl).take ops.length) ops ++ (olast.toks ++ base) = o0.toks ++ strm (ops.zip otl) base
  | [], o0, [], _, h => by
    cases h
    rfl
  | [], _, _ :: _, hl, _ => by simp at hl
  | _ :: _, _, [], hl, _ => by simp at hl
  | q :: qs, o0, o1 :: otl, hl, h => by
    have ih := tkn_strm base olast qs o1 otl (by simpa using hl) (by simpa using h)
    show (o0.toks ++ q :: tkn ((o1 :: otl).take qs.length) qs) ++ (olast.toks ++ base) = o0.toks ++ q :: (o1.toks ++ strm (qs.zip otl) base)
    rw [← ih]; simp
theorem strm_app (d c' : List (Str × Opd)) (base : List Str) : strm (d ++ c') base = strm d (strm c' base) := by
  unfold strm; rw [List.foldr_append]
theorem drop_strm (X : List Str) : ∀ d : List (Str × Opd), (strm d X).drop ((d.map (fun q => q.2.toks.length)).sum + d.length) = X
  | [] => rfl
  | q :: d => by
    have ih := drop_strm X d
    rw [strm_cons, List.map_cons, List.sum_cons, List.length_cons]
    rw [show q.2.toks.length + (d.map (fun q => q.2.toks.length)).sum + (d.length + 1) = (q.2.toks.length + ((d.map (fun q => q.2.toks.length)).sum + d.length)) + 1 by omega]
    rw [List.drop_succ_cons, ← List.drop_drop, List.drop_left]
    exact ih
theorem strm_len (base : List Str) : ∀ c : List (Str × Opd), base.length ≤ (strm c base).length ∧ (strm c base).length ≤ 3 * c.length + base.length
  | [] => ⟨Nat.le_refl _, by show base.length ≤ _; simp⟩
  | q :: c => by
    have ih := strm_len base c
    have h2 : q.2.toks.length ≤ 2 := by cases q.2 <;> decide
    rw [strm_cons, List.length_cons, List.length_append, List.length_cons]
    omega
theorem toks_ok (o : Opd) : ∀ u ∈ o.toks, PyData.strOk u = true := by
  cases o <;> decide +kernel
theorem strm_ok {base : List Str} (hb : ∀ u ∈ base, PyData.strOk u = true) : ∀ c : List (Str × Opd), (∀ q ∈ c, IsOp q.1) → ∀ u ∈ strm c base, PyData.strOk u = true
  | [], _ => hb
  | q :: c, hc => fun u hu => by
    rw [strm_cons] at hu
    rcases List.mem_cons.mp hu with rfl | hu
    · exact op_ok (hc q (.head _))
    · rcases List.mem_append.mp hu with hu | hu
      · exact toks_ok _ u hu
      · exact strm_ok hb c (fun x hx => hc x (.tail _ hx)) u hu
theorem ok_app {a b : Str} (ha : PyData.strOk a = true) (hb : PyData.strOk b = true) : PyData.strOk (a ++ b) = true := by
  unfold PyData.strOk at *
  show (a.cps ++ b.cps).all _ = true
  rw [Array.all_append, ha, hb]; rfl
theorem ok_par {t : Str} (h : PyData.strOk t = true) : PyData.strOk (par t) = true := ok_app (ok_app (by decide +kernel) h) (by decide +kernel)
theorem ok_br {t : Str} {a b : Int} (h : PyData.strOk t = true) : PyData.strOk (br a b t) = true := by
  unfold br; split
  · exact ok_par h
  · exact h
theorem ok_py {x : Str} (h : IsOp x) : PyData.strOk (py x) = true := by
  have : ∀ x ∈ opsL, PyData.strOk (py x) = true := by decide +kernel
  exact this x h
theorem words_str {os ps : List Str} {t : Str} {k : Int} (W : Words os ps t k) : (∀ o ∈ os, PyData.strOk o = true) → PyData.strOk t = true := by
  induction W with
  | one o => exact fun h => h o (.head _)
  | cut hop _ _ _ _ i1 i2 =>
    intro h
    have h1 := i1 fun o ho => h o (List.mem_append_left _ ho)
    have h2 := i2 fun o ho => h o (List.mem_append_right _ ho)
    exact ok_app (ok_app (ok_app (ok_app (ok_br h1) (by decide +kernel)) (ok_py hop)) (by decide +kernel)) (ok_br h2)
theorem text_ok (o : Opd) : PyData.strOk o.text = true := by cases o <;> decide +kernel
theorem text_five (o : Opd) : o.text.length ≤ 5 := by cases o <;> decide +kernel
/-- the plain part of the law, in the form the walk needs -/
theorem law_plain {opds : List Opd} {ops : List Str} {p : Int} {tail : Str} (hl : opds.length = ops.length + 1) (hn : ops.length ≤ 63) (hop : ∀ q ∈ ops, IsOp q) (hp : p ≤ 7) (ht : ¬ IsOp tail) (hq : tail = "?" → 0 < p) (hok : PyData.strOk tail = true) :
    ∃ (olast : Opd) (od oc os : List Str) (t : Str) (wk : Int) (y' : Str) (ts' toks : List Str), opds[ops.length]? = some olast ∧ ops = od ++ oc ∧ (∀ q ∈ od, p ≤ rk q) ∧ (∀ q ∈ oc.head?, rk q < p) ∧ tkn (opds.take ops.length) ops ++ (olast.toks ++ [tail, Str.ofString "n"]) = toks ∧
      (opds.take (od.length + 1)).map Opd.text = os ∧ (∀ o ∈ os, o.length ≤ 5) ∧ Words os od t wk ∧ t.length ≤ 4000 ∧ (∀ (w : World) (mean : ExcName → Option Value) (mg mb : Str → Option Value), PCtr w mean mg mb toks toks p (if p = 4 ∧ wk = 4 then par t else t) y' ts') ∧
      toks[((opds.take (od.length + 1)).map (fun o => o.toks.length)).sum + od.length]? = some y' ∧ toks.drop (((opds.take (od.length + 1)).map (fun o => o.toks.length)).sum + od.length + 1) = ts' ∧ ts' ≠ [] ∧
      PyData.strOk (if p = 4 ∧ wk = 4 then par t else t) = true ∧ (∀ u ∈ toks, PyData.strOk u = true) ∧ toks.length ≤ 1000 := by
  obtain ⟨olast, hlast⟩ : ∃ o, opds[ops.length]? = some o := ⟨opds[ops.length]'(by omega), by simp⟩
  cases opds with
  | nil => simp at hl
  | cons o0 otl =>
    have hl' : otl.length = ops.length := by simpa using hl
    have ez1 : (ops.zip otl).map (·.1) = ops := List.map_fst_zip (by omega)
    have ez2 : (ops.zip otl).map (·.2) = otl := List.map_snd_zip (by omega)
    have hc : (ops.zip otl).length ≤ 63 := by rw [List.length_zip]; omega
    have hops : ∀ q ∈ ops.zip otl, IsOp q.1 := fun q hq => hop q.1 (by rw [← ez1]; exact List.mem_map_of_mem hq)
    have et := tkn_strm [tail, Str.ofString "n"] olast ops o0 otl hl' hlast
    generalize hcd : ops.zip otl = c at ez1 ez2 hc hops et
    obtain ⟨d, c', t, wk, j, y, ts, y', ts', e, hd1, hc1, Wo, ht4, hfin, s1, s2, Lp⟩ := plain tail [Str.ofString "n"] ht c hc p o0 hq hops
    subst e
    rw [List.map_append] at ez1 ez2
    have etk : (o0 :: otl).take ((d.map (·.1)).length + 1) = o0 :: d.map (·.2) := by
      rw [List.take_succ_cons, ← ez2, List.length_map]
      congr 1
      rw [List.take_append_of_le_length (by simp), List.take_of_length_le (by simp)]
    have eos : ((o0 :: otl).take ((d.map (·.1)).length + 1)).map Opd.text = opdTexts o0 d := by
      rw [etk]; simp [opdTexts]
    have hsum : (((o0 :: otl).take ((d.map (·.1)).length + 1)).map (fun o => o.toks.length)).sum + (d.map (·.1)).length = o0.toks.length + ((d.map (fun q => q.2.toks.length)).sum + d.length) := by
      rw [etk]; simp [Function.comp_def]; omega
    have hdrop : (o0.toks ++ strm (d ++ c') [tail, Str.ofString "n"]).drop (o0.toks.length + ((d.map (fun q => q.2.toks.length)).sum + d.length)) = y' :: ts' := by
      rw [← List.drop_drop, List.drop_left, strm_app, drop_strm, s2]
    obtain ⟨g1, g2⟩ := drop_get hdrop
    have lens := strm_len [tail, Str.ofString "n"] (d ++ c')
    have h2 : o0.toks.length ≤ 2 := by cases o0 <;> decide
    refine ⟨olast, d.map (·.1), c'.map (·.1), opdTexts o0 d, t, wk, y', ts', o0.toks ++ strm (d ++ c') [tail, Str.ofString "n"], hlast, ez1.symm, ?_, ?_, et, eos, ?_, Wo, ht4, ?_, by rw [hsum]; exact g1, by rw [hsum]; exact g2, ?_, ?_, ?_, ?_⟩
    · intro q hq
      obtain ⟨x, hx, rfl⟩ := List.mem_map.mp hq
      exact hd1 x hx
    · intro q hq
      cases c' with
      | nil => exact nomatch hq
      | cons x c' =>
        cases hq
        exact hc1 x rfl
    · intro o ho
      rw [← eos] at ho
      obtain ⟨x, _, rfl⟩ := List.mem_map.mp ho
      exact text_five x
    · intro w mean mg mb
      rw [← hfin, s1]
      exact parse_ok hp Lp
    · intro e0
      have := (strm_len [tail, Str.ofString "n"] c').1
      rw [s2, e0] at this
      simp at this
    · have hw := words_str Wo (fun o ho => by
        rw [← eos] at ho
        obtain ⟨x, _, rfl⟩ := List.mem_map.mp ho
        exact text_ok x)
      split
      · exact ok_par hw
      · exact hw
    · intro u hu
      rcases List.mem_append.mp hu with hu | hu
      · exact toks_ok _ u hu
      · refine strm_ok (fun u hu => ?_) _ hops u hu
        rcases List.mem_cons.mp hu with rfl | hu
        · exact hok
        · rw [List.mem_singleton.mp hu]; decide +kernel
    · rw [List.length_append]
      have : [tail, Str.ofString "n"].length = 2 := rfl
      omega
end Mine
end
section
open PySem PySem.W PyProof.Rows
set_option Elab.async false
set_option maxRecDepth 100000
set_option maxHeartbeats 4000000
namespace Mine
theorem law_body {w : World} {mean : ExcName → Option Value} {mg mb : Str → Option Value} {A₀ : Around} {base h₀ : Heap} {L fa l : Addr} {cd : Value} {m : Str → Option Value} {s : Shared} {vs : List Value} {ns : List Int} {oc : Obj} {Q : Flow → Shared → Prop}
    (B : Below A₀ base [] h₀) (X : (KF w).In h₀) (T : Top hd.view_39 LO mean mg mb h₀) (hL : h₀.IsList l vs.toArray) (hI : IntsAre vs ns) (hn : ns.length ≤ 63) (F : Fr h₀ L s.heap m) (N : News h₀ L s.heap [(L + 1, oc)]) (dc : oc.data = .cell none) (hm : m "script" = some (.ref l))
    (h : ∀ h' m' tk', Fr h₀ L h' m' → Q (.ret (.bool true)) { s with heap := h', toks := tk' }) :
    wpAny (model PG w) (lAr w L fa cd) (execs (fnBody w.params 100) (lEnv w L fa cd)) Q NoE s := by
  refine law_a rfl X T hL hI hn F N dc hm ?_
  intro h1 m1 tk1 lo lp vo vp no np opds ops p tp tail tt hl hn2 hop hp1 hp7 ht hq hok so sp mops mopd mpri mtl F N
  obtain ⟨olast, od, oc, os, t, wk, y', ts', toks, hlast, eops, hd1, hc1, etk, eos, ho5, Wo, ht4, PC, hget, hdr, hts, okw, okt, hlen⟩ := law_plain hl hn2 hop hp7 ht hq hok
  refine law_b rfl X T so sp hl hlast hn2 F N mops mopd mpri mtl ?_
  intro h2 m2 tk2 lt vt ct V st F N
  rw [etk] at st
  have hl64 : opds.length ≤ 64 := by omega
  clear hl hlast etk
  subst eops
  refine law_c B X T sp hn2 hop hd1 hc1 V F N ?_
  intro h3 m3 tk3 ts V hs F N
  refine law_d1 X T so hl64 V hs F N ?_
  intro h4 m4 tk4 lx vx nx V hs hx sx F N
  rw [eos] at sx
  refine law_d2 B X T sp hn2 sx ho5 Wo ht4 V hs hx F N ?_
  intro h5 m5 tk5 tw V hs hw F N
  refine law_e X T so hl64 V hs hw F N ?_
  intro h6 m6 tk6 tx mtok mpri mwd mtk F N
  refine law_f B X T (PC w mean mg mb) st hget hdr hts okw okt hlen hp1 mtok mpri mwd mtk F N ?_
  intro h7 m7 tk7 F
  exact h h7 m7 tk7 F
end Mine
end
section
open PySem PySem.W PyProof.Rows
set_option Elab.async false
set_option maxRecDepth 100000
set_option maxHeartbeats 8000000
theorem PySem.Challenge.cw_dm0128_01_holds : PySem.Challenge.rw_dm0128_01.Holds :=
  Mine.hd (by
  w_on; w_strict (k_go0; refine wpAny_noRaise ?_; (refine Mine.law_body (below_caller _) (by assumption) (by assumption) (by assumption) (by assumption) (by omega) (by assumption) (by assumption) (by assumption) rfl ?_); intro h9 m9 tk9 F9; kc_close))
end
