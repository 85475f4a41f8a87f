import PyProof.Rows.All
import Wide.All
import OpenK.AllK
import Wide.FinOn
import Lean
import PySem.Challenge.RW_wo0069_01
open PySem PySem.W PySem.Spec PySem.Calls PyProof.Rows
set_option Elab.async false
set_option maxRecDepth 100000
set_option rowWalk.seconds 0
namespace Mine
local macro_rules | `(tactic| walk_at $s:str) => `(tactic| k_extra $s)
local macro_rules | `(tactic| k_enter) => `(tactic| (k_extra "k_enter"; intro g' L' h' FG' F' N' B' X' T'; (try dsimp only); (try k_lift B'); (try k_fold)))
local macro_rules | `(tactic| k_mem) => `(tactic| k_extra "k_mem")
local macro_rules | `(tactic| k_memK) => `(tactic| k_extra "k_memK")
local macro_rules | `(tactic| k_all) => `(tactic| k_extra "k_all")
local macro_rules | `(tactic| k_ne) => `(tactic| k_extra "k_ne")
local macro_rules | `(tactic| k_room) => `(tactic| k_extra "k_room")
theorem q0 : @PySem.Manifest.find? = @PySem.Manifest.find? := rfl
name_quick tw8075568018651887793 for PySem.Manifest.find? by Mine.q0
name_quick tw14979626087600564940 for PySem.Manifest.find? by Mine.q0
name_quick tw15684392147818286584 for PySem.Manifest.find? by Mine.q0
name_quick tw4267100675195865471 for PySem.Manifest.find? by Mine.q0
name_quick tw413528180498961939 for PySem.Manifest.find? by Mine.q0
name_quick tw15261043813070345055 for PySem.Manifest.find? by Mine.q0
name_quick tw15512758368177026203 for PySem.Manifest.find? by Mine.q0
name_quick tw1715305286062143992 for PySem.Manifest.find? by Mine.q0
name_quick tw10133424289631169331 for PySem.Manifest.find? by Mine.q0
name_quick tw1340868782516533803 for PySem.Manifest.find? by Mine.q0
name_quick tw2719445374943340272 for PySem.Manifest.find? by Mine.q0
name_quick tw14850637758680703435 for PySem.Manifest.find? by Mine.q0
name_quick tw11588390666370768167 for PySem.Manifest.find? by Mine.q0
name_quick tw13512673800721320934 for PySem.Manifest.find? by Mine.q0
name_quick tw17828083071136270317 for PySem.Manifest.find? by Mine.q0
name_quick tw2611137233208623240 for PySem.Manifest.find? by Mine.q0
name_quick tw10424941004445345732 for PySem.Manifest.find? by Mine.q0
name_quick tw12750523984047038209 for PySem.Manifest.find? by Mine.q0
name_quick tw12290603225136948437 for PySem.Manifest.find? by Mine.q0
name_quick tw4549333791460862111 for PySem.Manifest.find? by Mine.q0
name_quick tw11398097091735476289 for PySem.Manifest.find? by Mine.q0
name_quick tw5529568453561195837 for PySem.Manifest.find? by Mine.q0
name_quick tw5323294361858181094 for PySem.Manifest.find? by Mine.q0
name_quick tw11502282260701905712 for PySem.Manifest.find? by Mine.q0
name_quick tw15490439104401381959 for PySem.Manifest.find? by Mine.q0
name_quick tw1402947280878808549 for PySem.Manifest.find? by Mine.q0
name_quick tw16487347958798203451 for PySem.Manifest.find? by Mine.q0
name_quick tw6245536207120538393 for PySem.Manifest.find? by Mine.q0
name_quick tw15007238320947547705 for PySem.Manifest.find? by Mine.q0
name_quick tw16846860572762119324 for PySem.Manifest.find? by Mine.q0
name_quick tw16548257151911338427 for PySem.Manifest.find? by Mine.q0
name_quick tw16643706677886111943 for PySem.Manifest.find? by Mine.q0
name_quick tw3560238982266916124 for PySem.Manifest.find? by Mine.q0
name_quick tw3972328310683599613 for PySem.Manifest.find? by Mine.q0
name_quick tw5770868932273138760 for PySem.Manifest.find? by Mine.q0
name_quick tw7392212959928792091 for PySem.Manifest.find? by Mine.q0
name_quick tw3636048126100218174 for PySem.Manifest.find? by Mine.q0
name_quick tw392140993173905013 for PySem.Manifest.find? by Mine.q0
name_quick tw505943868828395459 for PySem.Manifest.find? by Mine.q0
name_quick tw17975652961387846372 for PySem.Manifest.find? by Mine.q0
name_quick tw12945451867199242903 for PySem.Manifest.find? by Mine.q0
name_quick tw13759679279233594173 for PySem.Manifest.find? by Mine.q0
name_quick tw1962928258387122110 for PySem.Manifest.find? by Mine.q0
name_quick tw1218959903707654005 for PySem.Manifest.find? by Mine.q0
name_quick tw1377046205977697930 for PySem.Manifest.find? by Mine.q0
set_option maxHeartbeats 8000000 in
open_top hd for PySem.Challenge.rw_wo0069_01
theorem fill_all : (PySem.Challenge.rw_wo0069_01 = PySem.Challenge.rw_wo0069_01 ∧ hd.heap_39 = hd.heap_39) → True := by
  k_fill
  w_top off
  intro _; trivial
section
/-! the counter of made things never falls -/
theorem runs_toks {M : Model} {Γ : PySem.Ctx} {p : Pos} {t : Sem Fin} {fs : List Frame} {s s' : Shared} {e : End} (h : Runs M Γ p t fs s e s') : s.toks ≤ s'.toks := by
  induction h with
  | done | raise | yield => exact Nat.le_refl _
  | fresh _ ih => exact Nat.le_trans (Nat.le_succ _) ih
  | call _ _ i1 i2 => exact Nat.le_trans i1 i2
  | resumeFresh _ _ _ _ i1 i2 => exact Nat.le_trans i1 i2
  | resumeSuspended _ _ _ _ i1 i2 => exact Nat.le_trans i1 i2
  | segRet _ _ i1 i2 => exact Nat.le_trans i1 i2
  | segGen _ _ i1 i2 => exact Nat.le_trans i1 i2
  | segSuspGen _ _ _ _ i1 i2 => exact Nat.le_trans i1 i2
  | _ => assumption
theorem wakes_toks {M : Model} {Γ : PySem.Ctx} {p : Pos} {g : Nat} {r : Resume} {s s' : Shared} {res : GenResult} (h : Wakes M Γ p g r s res s') : s.toks ≤ s'.toks := by
  unfold Wakes at h
  split at h
  · exact h.elim
  · split at h
    · obtain ⟨e₁, s₁, hr, _, _, rfl⟩ := h
      have q := runs_toks hr; exact q
    · rw [h.2]; exact Nat.le_refl _
    · rw [h.2]; exact Nat.le_refl _
  · obtain ⟨e₁, s₁, hr, _, _, rfl⟩ := h
    have q := runs_toks hr; exact q
  · rw [h.2]; exact Nat.le_refl _
  · rw [h.2]; exact Nat.le_refl _
theorem wp_toks {α : Type} (M : Model) (Γ : PySem.Ctx) : ∀ (t : Sem α) {Q : α → Pos → Shared → Prop} {E : Value → Pos → Shared → Prop} {p : Pos} {s : Shared} {n : Nat}, n ≤ s.toks → Sem.wp M Γ t (fun a p' s' => n ≤ s'.toks → Q a p' s') (fun e p' s' => n ≤ s'.toks → E e p' s') p s → Sem.wp M Γ t Q E p s
  | .pure a, _, _, _, _, _, hn, h => by rw [Sem.wp] at h ⊢; exact h hn
  | .raise e, _, _, _, _, _, hn, h => by rw [Sem.wp] at h ⊢; exact h hn
  | .unsupported _, _, _, _, _, _, _, h => by rw [Sem.wp] at h; exact h.elim
  | .finish _, _, _, _, _, _, _, h => by rw [Sem.wp] at h; exact h.elim
  | .rule _ k, _, _, _, _, _, hn, h => by rw [Sem.wp] at h ⊢; exact wp_toks M Γ (k ()) hn h
  | .at _ k, _, _, _, _, _, hn, h => by rw [Sem.wp] at h ⊢; exact wp_toks M Γ (k ()) hn h
  | .load a _ k, _, _, _, _, _, hn, h => by
    rw [Sem.wp] at h ⊢; obtain ⟨o, ho, h⟩ := h; exact ⟨o, ho, wp_toks M Γ (k o) hn h⟩
  | .update a _ f k, _, _, _, _, _, hn, h => by
    rw [Sem.wp] at h ⊢; exact ⟨h.1, wp_toks M Γ (k ()) (by exact hn) h.2⟩
  | .loadIfAlive a k, _, _, _, s, _, hn, h => by rw [Sem.wp] at h ⊢; exact wp_toks M Γ (k (s.heap.get? a)) hn h
  | .point _ k, _, _, _, _, _, hn, h => by rw [Sem.wp] at h ⊢; exact wp_toks M Γ (k ()) hn h
  | .register _ _, _, _, _, _, _, _, h => by rw [Sem.wp] at h; exact h.elim
  | .alloc o k, _, _, _, s, _, hn, h => by rw [Sem.wp] at h ⊢; exact wp_toks M Γ (k s.heap.objs.size) (by exact hn) h
  | .fresh k, _, _, _, s, _, hn, h => by rw [Sem.wp] at h ⊢; exact wp_toks M Γ (k s.toks) (Nat.le_trans hn (Nat.le_succ _)) h
  | .ask k, _, _, _, _, _, hn, h => by rw [Sem.wp] at h ⊢; exact wp_toks M Γ _ hn h
  | .choose src n k, _, _, _, _, _, hn, h => by rw [Sem.wp] at h ⊢; exact ⟨h.1, wp_toks M Γ _ (by exact hn) h.2⟩
  | .os q _ k, _, _, _, _, _, hn, h => by rw [Sem.wp] at h ⊢; exact wp_toks M Γ _ (by exact hn) h
  | .call c hd _ _ k, _, _, _, _, _, hn, h => by
    rw [Sem.wp] at h ⊢
    obtain ⟨r, s₁, hr, h⟩ := h
    exact ⟨r, s₁, hr, wp_toks M Γ (k r) (Nat.le_trans hn (runs_toks hr)) h⟩
  | .handled own k, _, _, _, _, _, hn, h => by rw [Sem.wp] at h ⊢; exact wp_toks M Γ _ hn h
  | .genState g k, _, _, _, _, _, hn, h => by
    rw [Sem.wp] at h ⊢; obtain ⟨st, ho, h⟩ := h; exact ⟨st, ho, wp_toks M Γ _ hn h⟩
  | .newGen c k, _, _, _, _, _, hn, h => by rw [Sem.wp] at h ⊢; exact wp_toks M Γ _ (by exact hn) h
  | .resume g r _ k, _, _, _, _, _, hn, h => by
    rw [Sem.wp] at h ⊢
    obtain ⟨res, s₁, hr, h⟩ := h
    exact ⟨res, s₁, hr, wp_toks M Γ (k res) (Nat.le_trans hn (wakes_toks hr)) h⟩
  | .yield .., _, _, _, _, _, _, h => by rw [Sem.wp] at h; exact h.elim
  | .stack k, _, _, _, _, _, hn, h => by rw [Sem.wp] at h ⊢; exact wp_toks M Γ _ hn h
  | .fork .., _, _, _, _, _, _, h => by rw [Sem.wp] at h; exact h.elim
  | .thread k, _, _, _, _, _, hn, h => by rw [Sem.wp] at h ⊢; exact wp_toks M Γ _ hn h
  | .await .., _, _, _, _, _, _, h => by rw [Sem.wp] at h; exact h.elim
theorem toks_grow {α : Type} {M : Model} {A : Around} {t : Sem α} {Q : α → Shared → Prop} {E : Value → Shared → Prop} {s : Shared}
    (h : wpAny M A t (fun a s' => s.toks ≤ s'.toks → Q a s') (fun e s' => s.toks ≤ s'.toks → E e s') s) : wpAny M A t Q E s :=
  fun Γ p hΓ => wp_toks M Γ t (Nat.le_refl _) (h Γ p hΓ)
/-- the same, with nothing said of a raise -/
theorem toks_grow' {α : Type} {M : Model} {A : Around} {t : Sem α} {Q : α → Shared → Prop} {E : Value → Shared → Prop} {s : Shared}
    (h : wpAny M A t (fun a s' => s.toks ≤ s'.toks → Q a s') E s) : wpAny M A t Q E s := toks_grow (wpAny_mono h (fun _ _ h => h) fun _ _ h _ => h)
end
section
/-! texts as lists of signs -/
abbrev sg (x : PySem.Str) : List Nat := x.cps.toList
abbrev tx (l : List Nat) : PySem.Str := ⟨l.toArray⟩
theorem sg_tx (l : List Nat) : sg (tx l) = l := List.toList_toArray
theorem tx_sg (x : PySem.Str) : tx (sg x) = x := by cases x; simp [tx, sg]
theorem sg_inj {x y : PySem.Str} (h : sg x = sg y) : x = y := by rw [← tx_sg x, ← tx_sg y, h]
theorem sg_app (x y : PySem.Str) : sg (x ++ y) = sg x ++ sg y := by show (x.cps ++ y.cps).toList = _; simp
theorem sg_len (x : PySem.Str) : x.length = (sg x).length := by show x.cps.size = _; simp
theorem tx_len (l : List Nat) : (tx l).length = l.length := by rw [sg_len, sg_tx]
theorem bne_false {x y : PySem.Str} (h : (x != y) = false) : x = y := by simpa using h
theorem bne_true {x y : PySem.Str} (h : (x != y) = true) : x ≠ y := by simpa using h
theorem bne_of {x y : PySem.Str} (h : x = y) : (x != y) = false := by simpa using h
theorem bne_of' {x y : PySem.Str} (h : x ≠ y) : (x != y) = true := by simpa using h

theorem toNat_up {i : Int} (h : 0 ≤ i) : i.toNat + 1 = (i + 1).toNat := by omega
theorem toNat_beyond {i : Int} {n : Nat} (h : (n : Int) ≤ i) : n ≤ i.toNat := by omega
theorem sub_toNat_le {i j : Int} {n : Nat} (h : (n : Int) ≤ j) (hi : 0 ≤ i) : n - i.toNat ≤ (j - i).toNat := by omega
theorem slice_nn (x : PySem.Str) {i j : Int} (hi : 0 ≤ i) (hij : i ≤ j) : sg (PySem.Txt.slice x (some i) (some j)) = ((sg x).drop i.toNat).take (j - i).toNat := by
  have hl := sg_len x
  have e : Builtin.Str.strSliceIndices (some i) (some j) 1 x.length = Builtin.Str.strSliceIndices (some (min i x.length)) (some (min j x.length)) 1 x.length := by
    have hn : (0 : Int) ≤ x.length := Int.natCast_nonneg _
    clear hl
    simp only [Builtin.Str.strSliceIndices]
    generalize (x.length : Int) = n at hn
    simp only [Int.not_lt.2 hi, Int.not_lt.2 (Int.le_trans hi hij), Int.not_lt.2 (Int.le_min.2 ⟨hi, hn⟩), Int.not_lt.2 (Int.le_min.2 ⟨Int.le_trans hi hij, hn⟩), if_false, show (1 : Int) > 0 by decide, if_true, Int.min_assoc, Int.min_self]
  have key : PySem.Txt.slice x (some i) (some j) = PySem.StrLaws.sliceText x (some (min i x.length)) (some (min j x.length)) := by
    show PySem.StrLaws.sliceText x (some i) (some j) = _
    unfold PySem.StrLaws.sliceText
    rw [e]
  have h := PySem.StrLaws.sliceText_plain (x := x) (i := min i x.length) (j := min j x.length) ⟨Int.le_min.2 ⟨hi, Int.natCast_nonneg _⟩, Int.le_min.2 ⟨Int.le_trans (Int.min_le_left _ _) hij, Int.min_le_right _ _⟩, by rw [hl]; exact Int.min_le_right _ _⟩
  rw [key, h, sg_tx]
  show ((sg x).drop _).take _ = _
  generalize sg x = l at hl
  rw [hl]
  clear h key e hl
  by_cases h1 : i ≤ l.length
  · rw [Int.min_eq_left h1]
    by_cases h2 : j ≤ l.length
    · rw [Int.min_eq_left h2]
    · have h3 := Int.le_of_not_le h2
      rw [Int.min_eq_right h3, List.take_of_length_le (List.length_drop ▸ sub_toNat_le (Int.le_refl _) hi), List.take_of_length_le (List.length_drop ▸ sub_toNat_le h3 hi)]
  · have h3 := Int.le_of_not_le h1
    rw [Int.min_eq_right h3, Int.min_eq_right (Int.le_trans h3 hij), List.drop_eq_nil_of_le (as := l) (i := i.toNat) (toNat_beyond h3), Int.sub_self]
    simp
theorem slice_to (x : PySem.Str) {j : Int} (hj : 0 ≤ j) : sg (PySem.Txt.slice x none (some j)) = (sg x).take j.toNat := by
  have e : PySem.Txt.slice x none (some j) = PySem.Txt.slice x (some 0) (some j) := by
    show PySem.StrLaws.sliceText x none (some j) = PySem.StrLaws.sliceText x (some 0) (some j)
    unfold PySem.StrLaws.sliceText; rw [PySem.StrLaws.sliceIdx_none_lo]
  rw [e, slice_nn x (Int.le_refl 0) hj]; simp
theorem slice_from (x : PySem.Str) {i : Int} (hi : 0 ≤ i) : sg (PySem.Txt.slice x (some i) none) = (sg x).drop i.toNat := by
  have hl := sg_len x
  have e : PySem.Txt.slice x (some i) none = PySem.Txt.slice x (some i) (some (x.length : Int)) := by
    show PySem.StrLaws.sliceText x (some i) none = PySem.StrLaws.sliceText x (some i) (some (x.length : Int))
    unfold PySem.StrLaws.sliceText; rw [PySem.StrLaws.sliceIdx_none_hi]
  by_cases h : i ≤ x.length
  · rw [e, slice_nn x hi h, List.take_of_length_le]
    rw [List.length_drop, hl]; exact sub_toNat_le (Int.le_refl _) hi
  · have h3 := Int.le_of_not_le h
    rw [PyProof.Rows.slice_from_beyond h3]
    rw [hl] at h3
    rw [List.drop_eq_nil_of_le (toNat_beyond h3)]
theorem item_at (x : PySem.Str) {i : Int} (hi : 0 ≤ i) (h : i < x.length) : ∃ c, (sg x)[i.toNat]? = some c ∧ PySem.Txt.item x i = tx [c] ∧ (sg x).drop i.toNat = c :: (sg x).drop (i.toNat + 1) := by
  have hl := sg_len x
  have hlt : i.toNat < (sg x).length := by omega
  refine ⟨(sg x)[i.toNat], by simp, ?_, List.drop_eq_getElem_cons hlt⟩
  unfold PySem.Txt.item PySem.Txt.charAt
  rw [PySem.StrLaws.seqIndex_nonneg hi h]
  have h2 : i.toNat < x.cps.size := by simpa [PySem.Str.length] using (by omega : i.toNat < x.length)
  simp [tx, sg, h2]
theorem tx_one_eq {c d : Nat} : tx [c] = tx [d] ↔ c = d := ⟨fun h => by have := congrArg sg h; rw [sg_tx, sg_tx] at this; simpa using this, fun h => by rw [h]⟩

abbrev dbl : Nat → List Nat → List Nat := PySem.StrLaws.dbl
theorem dbl_nil (c : Nat) : dbl c [] = [] := rfl
theorem dbl_cons (c k : Nat) (r : List Nat) : dbl c (k :: r) = if k = c then k :: k :: dbl c r else k :: dbl c r := rfl
theorem dbl_len (c : Nat) : ∀ l : List Nat, (dbl c l).length = l.length + l.count c
  | [] => rfl
  | k :: r => by
    have ih := dbl_len c r
    rw [dbl_cons]
    by_cases h : k = c
    · subst h; simp [ih]; omega
    · simp [h, ih]; omega
theorem dbl_le (c : Nat) (l : List Nat) : (dbl c l).length ≤ 2 * l.length := by
  have := dbl_len c l; have := List.count_le_length (a := c) (l := l); omega

/-- what stands behind an opening mark, up to the closing one -/
def pq : List Nat → List Nat
  | [] => []
  | [c] => if c = 34 then [] else [c]
  | c :: d :: r => if c = 34 then (if d = 34 then 34 :: pq r else []) else c :: pq (d :: r)
theorem pq_plain {c : Nat} {r : List Nat} (h : c ≠ 34) : pq (c :: r) = c :: pq r := by
  cases r with
  | nil => simp [pq, h]
  | cons d r => simp [pq, h]
theorem pq_two (r : List Nat) : pq (34 :: 34 :: r) = 34 :: pq r := by simp [pq]
theorem pq_end {d : Nat} {r : List Nat} (h : d ≠ 34) : pq (34 :: d :: r) = [] := by simp [pq, h]
theorem pq_last : pq [34] = [] := by simp [pq]
theorem pq_name : ∀ (nm rest : List Nat), rest.head? ≠ some 34 → pq (dbl 34 nm ++ 34 :: rest) = nm
  | [], rest, h => by
    cases rest with
    | nil => simp [dbl_nil, pq]
    | cons d r => exact pq_end (by intro e; subst e; exact h rfl)
  | k :: nm, rest, h => by
    rw [dbl_cons]
    by_cases hk : k = 34
    · subst hk; simp only [if_true, List.cons_append]; rw [pq_two, pq_name nm rest h]
    · rw [if_neg hk, List.cons_append, pq_plain hk, pq_name nm rest h]
theorem pq_le : ∀ l : List Nat, (pq l).length ≤ l.length
  | [] => Nat.le_refl _
  | [c] => by simp only [pq]; split <;> simp
  | c :: d :: r => by
    have h1 := pq_le r
    have h2 := pq_le (d :: r)
    simp only [pq]
    split
    · split <;> simp <;> omega
    · simp at h2 ⊢; omega
end
section
section
variable {prog : Program} {w : World} {A : Around} {E : Value → Shared → Prop} {s : Shared} {env : Env} {h₀ : Heap} {x : PySem.Str} {body : List Stmt} {Q : Flow → Shared → Prop}
theorem str_loop {xt : PySem.Str} {o : Obj} {St : Nat → Heap → Prop} {m₀ : PySem.Str → Option Value} {news : List (Addr × Obj)} (J : Nat → (PySem.Str → Option Value) → List (Addr × Obj) → Prop)
    (W : Walks prog w A s.heap.objs.size [s.heap.objs.size] [s.heap.objs.size] xt.cps.size (SignAt xt) St) (hst : St 0 (s.heap.push o)) (hob : ∀ i h, St i h → ∃ o, h.get? s.heap.objs.size = some o)
    (F : Fr h₀ env.locals s.heap m₀) (N : News h₀ env.locals s.heap news) (hj : J 0 m₀ news)
    (turn : ∀ i n t m₁ nx h tk own, xt.cps[i]? = some n → TbOff own nx → J i m₁ nx → Fr h₀ env.locals h (fun y => if y = x then some (.str ⟨#[n]⟩ t) else m₁ y) → News h₀ env.locals h (nx ++ own) →
      wpAny (model prog w) A (execs body env) (TbPost h₀ env.locals (J (i + 1)) own { s with heap := h, toks := tk } Q) E { s with heap := h, toks := tk })
    (done : ∀ m₁ nx h tk, J xt.cps.size m₁ nx → Fr h₀ env.locals h m₁ → News h₀ env.locals h nx → Q .next { s with heap := h, toks := tk }) :
    LoopAtV prog w A h₀ env x body Q E (.ref s.heap.objs.size) { s with heap := s.heap.push o } := by
  refine ⟨_, _, _, xt.cps.size, _, _, m₀, news, J, rfl, W, ?_, ?_, ?_, hst, F.push _, (fun p hp => ⟨Heap.get?_push_of_some _ (N p hp).1, (N p hp).2⟩), hj, ?_, ?_⟩
  · intro hm
    exact absurd F.ns.lt ((List.mem_singleton.mp hm) ▸ Nat.lt_irrefl _)
  · intro b hb
    rw [List.mem_singleton.mp hb]
    exact next_is_new F
  · intro p hp hI
    exact absurd (Heap.lt_size (N p hp).1) ((List.mem_singleton.mp hI) ▸ Nat.lt_irrefl _)
  · rintro i v m₁ news₁ s₁ own ⟨hh', tk', rfl⟩ hin hP hJ hoff hown _ hmem hst' F₁ N₁
    obtain ⟨oi, hoi⟩ := hob _ _ hst'
    have hI : (s.heap.objs.size, oi) ∈ own := hmem _ (.head _) (next_is_new F) oi hoi
    have hsep : TbOff own news₁ := by
      intro p hp q hq e
      exact hoff q hq (List.mem_singleton.mpr (by rw [← e, List.mem_singleton.mp (hown p hp)]))
    obtain ⟨n, u, hn, rfl⟩ := hP
    have N₂ : News h₀ env.locals hh' (news₁ ++ own) := fun p hp => N₁ p ((List.mem_append.mp hp).elim (fun h => List.mem_append.mpr (.inr h)) fun h => List.mem_append.mpr (.inl h))
    refine wpAny_mono (turn i n u m₁ news₁ hh' tk' own hn hsep hJ F₁ N₂) (fun f s₂ p => ?_) fun _ _ e => e
    have fin : TbEnd h₀ env.locals (J (i + 1)) own { s with heap := hh', toks := tk' } s₂ → LoopStepU h₀ env.locals [s.heap.objs.size] own (J (i + 1)) { s with heap := hh', toks := tk' } .next s₂ := by
      rintro ⟨h', tk, m', news', nx, e, F', N', hn, ho, ha, hm⟩
      exact ⟨rfl, h', tk, m', nx, e, F', fun p hp => N' p ((List.mem_append.mp hp).elim (ho p) (hn p)), fun p hp hq => ha _ hI p hp (List.mem_singleton.mp hq).symm, hm⟩
    cases f with
    | ret v => exact .ret p
    | brk => exact .brk p
    | next => exact .next (fin p)
    | cont => exact .cont (fin p)
  · rintro h' tk m' news' F' N' _ hJ
    exact done m' news' h' tk hJ F' N'
theorem str_inv {xt : PySem.Str} {tx : Tok} {m₀ : PySem.Str → Option Value} {news : List (Addr × Obj)} (J : Nat → (PySem.Str → Option Value) → List (Addr × Obj) → Prop)
    (hh : A.handled = none) (F : Fr h₀ env.locals s.heap m₀) (N : News h₀ env.locals s.heap news) (hj : J 0 m₀ news)
    (turn : ∀ i n t m₁ nx h tk own, xt.cps[i]? = some n → TbOff own nx → J i m₁ nx → Fr h₀ env.locals h (fun y => if y = x then some (.str ⟨#[n]⟩ t) else m₁ y) → News h₀ env.locals h (nx ++ own) →
      wpAny (model prog w) A (execs body env) (TbPost h₀ env.locals (J (i + 1)) own { s with heap := h, toks := tk } Q) E { s with heap := h, toks := tk })
    (done : ∀ m₁ nx h tk, J xt.cps.size m₁ nx → Fr h₀ env.locals h m₁ → News h₀ env.locals h nx → Q .next { s with heap := h, toks := tk }) :
    wpAny (model prog w) A (pyIter (.str xt tx)) (fun it s₂ => LoopAtV prog w A h₀ env x body Q E it s₂) E s := by
  cases ha : xt.cps.all (· < 128)
  · exact wpAny_pyIter_wide ha (str_loop J (Walks.strWide hh _ xt tx) ⟨_, Heap.get?_push_size _ rfl, rfl, rfl⟩ (fun i h q => by obtain ⟨o, ho, _⟩ := q; exact ⟨o, ho⟩) F N hj turn done)
  · exact wpAny_pyIter_ascii ha (str_loop J (Walks.strAscii hh _ xt tx) ⟨_, Heap.get?_push_size _ rfl, rfl, rfl⟩ (fun i h q => by obtain ⟨o, ho, _⟩ := q; exact ⟨o, ho⟩) F N hj turn done)
/-- what holds where the loop is left, by a break or by its end -/
def SiBrk (h₀ : Heap) (La : Addr) (D : (PySem.Str → Option Value) → List (Addr × Obj) → Prop) (s₁ s₂ : Shared) : Prop :=
  ∃ h' tk m' news' nx, s₂ = { s₁ with heap := h', toks := tk } ∧ Fr h₀ La h' m' ∧ News h₀ La h' news' ∧ (∀ p ∈ nx, p ∈ news') ∧ D m' nx
def SiPost (h₀ : Heap) (La : Addr) (J D : (PySem.Str → Option Value) → List (Addr × Obj) → Prop) (own : List (Addr × Obj)) (s₁ : Shared) (Q : Flow → Shared → Prop) (f : Flow) (s₂ : Shared) : Prop :=
  match f with
  | .ret v => Q (.ret v) s₂
  | .brk => SiBrk h₀ La D s₁ s₂
  | _ => TbEnd h₀ La J own s₁ s₂
theorem str_inv_brk {xt : PySem.Str} {tx : Tok} {m₀ : PySem.Str → Option Value} {news : List (Addr × Obj)} (J : Nat → (PySem.Str → Option Value) → List (Addr × Obj) → Prop) (D : (PySem.Str → Option Value) → List (Addr × Obj) → Prop)
    (hh : A.handled = none) (F : Fr h₀ env.locals s.heap m₀) (N : News h₀ env.locals s.heap news) (hj : J 0 m₀ news) (hd : ∀ m nx, J xt.cps.size m nx → D m nx)
    (turn : ∀ i n t m₁ nx h tk own, xt.cps[i]? = some n → TbOff own nx → J i m₁ nx → Fr h₀ env.locals h (fun y => if y = x then some (.str ⟨#[n]⟩ t) else m₁ y) → News h₀ env.locals h (nx ++ own) →
      wpAny (model prog w) A (execs body env) (SiPost h₀ env.locals (J (i + 1)) D own { s with heap := h, toks := tk } Q) E { s with heap := h, toks := tk })
    (done : ∀ m₁ nx h tk, D m₁ nx → Fr h₀ env.locals h m₁ → News h₀ env.locals h nx → Q .next { s with heap := h, toks := tk }) :
    wpAny (model prog w) A (pyIter (.str xt tx)) (fun it s₂ => LoopAtV prog w A h₀ env x body Q E it s₂) E s := by
  refine str_inv J hh F N hj (fun i n t m₁ nx h tk own hn ho hJ F₁ N₁ => ?_) fun m₁ nx h tk hJ F₁ N₁ => done m₁ nx h tk (hd _ _ hJ) F₁ N₁
  refine wpAny_mono (turn i n t m₁ nx h tk own hn ho hJ F₁ N₁) (fun f s₂ p => ?_) fun _ _ e => e
  cases f with
  | ret v => exact p
  | brk =>
    obtain ⟨h', tk', m', news', nx', e, F', N', hs, hD⟩ := p
    subst e
    exact done m' nx' h' tk' hD F' fun q hq => N' q (hs q hq)
  | next => exact p
  | cont => exact p
end
end
section
/-! loops that know the counter of made things -/
def TwEnd {σ : Type} (h₀ : Heap) (L : Addr) (s : Shared) (Led : σ → List (Addr × Obj)) (ps : σ → List (PySem.Str × Value)) (Facts : σ → Prop) (stored : List PySem.Str) (m₀ : PySem.Str → Option Value) (P : σ → Nat → Prop) (μ : σ → Nat) (c : σ) (s₂ : Shared) : Prop :=
  ∃ (c' : σ) (h' : Heap) (tk : Nat) (m' : PySem.Str → Option Value) (news' : List (Addr × Obj)), s₂ = { s with heap := h', toks := tk } ∧ Fr h₀ L h' m' ∧ News h₀ L h' news' ∧ (∀ p ∈ Led c', p ∈ news') ∧ Facts c' ∧ (∀ p ∈ ps c', m' p.1 = some p.2) ∧ (∀ z, (∀ p ∈ ps c', z ≠ p.1) → stored.contains z = false → m' z = m₀ z) ∧ P c' tk ∧ μ c' < μ c
def TwPost {σ : Type} (h₀ : Heap) (L : Addr) (s : Shared) (Led : σ → List (Addr × Obj)) (ps : σ → List (PySem.Str × Value)) (Facts : σ → Prop) (stored : List PySem.Str) (m₀ : PySem.Str → Option Value) (P : σ → Nat → Prop) (μ : σ → Nat) (Q : Flow → Shared → Prop) (c : σ) (f : Flow) (s₂ : Shared) : Prop :=
  match f with
  | .ret v => Q (.ret v) s₂
  | .brk => Q .next s₂
  | _ => TwEnd h₀ L s Led ps Facts stored m₀ P μ c s₂
theorem tw_end {σ : Type} {h₀ : Heap} {L : Addr} {s : Shared} {Led : σ → List (Addr × Obj)} {ps : σ → List (PySem.Str × Value)} {Facts : σ → Prop} {stored : List PySem.Str} {m₀ m' : PySem.Str → Option Value} {P : σ → Nat → Prop} {μ : σ → Nat} {c : σ} {h' : Heap} {tk : Nat} {news' : List (Addr × Obj)} (c' : σ)
    (F : Fr h₀ L h' m') (N : News h₀ L h' news') (hn : ∀ p ∈ Led c', p ∈ news') (hf : Facts c') (hk : ∀ p ∈ ps c', m' p.1 = some p.2) (hr : ∀ z, (∀ p ∈ ps c', z ≠ p.1) → stored.contains z = false → m' z = m₀ z) (hp : P c' tk) (hm : μ c' < μ c) :
    TwEnd h₀ L s Led ps Facts stored m₀ P μ c { s with heap := h', toks := tk } := ⟨c', h', tk, m', news', rfl, F, N, hn, hf, hk, hr, hp, hm⟩
section
variable {prog : Program} {w : World} {A : Around} {E : Value → Shared → Prop} {Q : Flow → Shared → Prop} {s : Shared} {env : Env} {h₀ : Heap} {L : Addr}
theorem tw_while {σ : Type} {test : Expr} {body : List Stmt} {pos : Pos} {m₀ : PySem.Str → Option Value} (Led : σ → List (Addr × Obj)) (ps : σ → List (PySem.Str × Value)) (Facts : σ → Prop) (stored : List PySem.Str) (P : σ → Nat → Prop) (μ : σ → Nat) (c₀ : σ)
    (F : Fr h₀ L s.heap m₀) (N : News h₀ L s.heap (Led c₀)) (hf : Facts c₀) (hk : ∀ p ∈ ps c₀, m₀ p.1 = some p.2) (hp : P c₀ s.toks)
    (turn : ∀ (c : σ) (u : PySem.Str → Option Value) h tk, Facts c → P c tk → Fr h₀ L h (kstB (fun z => if stored.contains z then u z else m₀ z) (ps c)) → News h₀ L h (Led c) →
      wpAny (model prog w) A (isTrue test env (eval test env)) (fun b s₂ =>
        if b = true then wpAny (model prog w) A (execs body env) (TwPost h₀ L s Led ps Facts stored m₀ P μ Q c) E s₂ else Q .next s₂) E { s with heap := h, toks := tk })
    (hE : PassesOwn (model prog w) A env E := by passes_own) :
    wpAny (model prog w) A (exec (.While test body [] pos) env) Q E s := by
  refine wpAny_While (codeAny_whileLoop (fun n s' => ∃ c h₁ tk₁ m₁, s' = { s with heap := h₁, toks := tk₁ } ∧ Fr h₀ L h₁ m₁ ∧ News h₀ L h₁ (Led c) ∧ μ c = n ∧ Facts c ∧ (∀ p ∈ ps c, m₁ p.1 = some p.2) ∧ (∀ z, (∀ p ∈ ps c, z ≠ p.1) → stored.contains z = false → m₁ z = m₀ z) ∧ P c tk₁) ?_ (μ c₀) ⟨c₀, s.heap, s.toks, m₀, rfl, F, N, rfl, hf, hk, fun _ _ _ => rfl, hp⟩)
  rintro n s' ⟨c, h₁, tk₁, m₁, rfl, F₁, N₁, rfl, hf', h1, h2, hp'⟩
  refine wpAny_mono (turn c m₁ h₁ tk₁ hf' hp' (ksw_fr h1 h2 F₁) N₁) (fun b s₂ p => ?_) hE
  cases b with
  | false =>
    simp only [Bool.false_eq_true, if_false] at p ⊢
    exact wpAny_execs_nil p
  | true =>
    simp only [if_true] at p ⊢
    refine wpAny_mono p (fun f s₃ q => ?_) hE
    cases f with
    | ret v => exact q
    | brk => exact q
    | next =>
      obtain ⟨c', h', tk', m', news', rfl, F', N', hn, hf9, hk9, hr9, hp9, hm9⟩ := q
      exact ⟨μ c', hm9, c', h', tk', m', rfl, F', fun p hp => N' p (hn p hp), rfl, hf9, hk9, hr9, hp9⟩
    | cont =>
      obtain ⟨c', h', tk', m', news', rfl, F', N', hn, hf9, hk9, hr9, hp9, hm9⟩ := q
      exact ⟨μ c', hm9, c', h', tk', m', rfl, F', fun p hp => N' p (hn p hp), rfl, hf9, hk9, hr9, hp9⟩
end
/-- a value's mark is a real one, and older than now -/
def TokOK (n t : Nat) : Prop := t ≠ 0 ∧ t < n
theorem TokOK.le {n n' : Nat} {t : Tok} (h : TokOK n t) (hn : n ≤ n') : TokOK n' t := ⟨h.1, Nat.lt_of_lt_of_le h.2 hn⟩
section
variable {prog : Program} {w : World} {A : Around} {E : Value → Shared → Prop} {s : Shared} {x y : PySem.Str} {t u : Tok} {Q : Value → Shared → Prop}
/-- two texts glued: the mark is one of theirs, or new -/
theorem add_tok (ht : TokOK s.toks t) (hu : TokOK s.toks u) (hz : x.length + y.length ≤ sizeLine) (h : ∀ t' k, s.toks ≤ k → TokOK k t' → Q (.str (x ++ y) t') { s with toks := k }) : wpAny (model prog w) A (binaryOp .Add (.str x t) (.str y u)) Q E s := by
  refine P.add_str ?_
  by_cases hx : (x.length == 0) = true
  · rw [if_pos hx]
    have e : x ++ y = y := by
      have : sg x = [] := List.eq_nil_of_length_eq_zero (by rw [← sg_len]; simpa using hx)
      exact sg_inj (by rw [sg_app, this]; rfl)
    have := h u s.toks (Nat.le_refl _) hu
    rw [e] at this
    exact this
  · rw [if_neg hx]
    by_cases hy : (y.length == 0) = true
    · rw [if_pos hy]
      have e : x ++ y = x := by
        have : sg y = [] := List.eq_nil_of_length_eq_zero (by rw [← sg_len]; simpa using hy)
        exact sg_inj (by rw [sg_app, this, List.append_nil])
      have := h t s.toks (Nat.le_refl _) ht
      rw [e] at this
      exact this
    · rw [if_neg hy]
      have hz' : (x ++ y).length ≤ sizeLine := by rw [sg_len, sg_app, List.length_append, ← sg_len, ← sg_len]; exact hz
      refine ⟨hz', h s.toks (s.toks + 1) (Nat.le_succ _) ⟨?_, Nat.lt_succ_self _⟩⟩
      intro e; exact absurd ht.2 (by rw [e]; exact Nat.not_lt_zero _)
/-- «is» of two texts with different marks: whatever it says, it says yes only where they are equal -/
theorem is_tok {n : Nat} (h0 : t ≠ 0) (h1 : u ≠ 0) (h2 : t ≠ u) (hb : NoneBooked s.heap) (h : ∀ b : Bool, (b = true → x = y) → Q (.bool b) s) : wpAny (model prog w) A (compareOp .Is (.str x t) (.str y u)) Q E s := by
  show wpAny _ A (isSame (.str x t) (.str y u) >>= fun b => pure (Value.bool b)) Q E s
  refine wpAny_bind ?_
  by_cases e : x = y
  · exact wpAny_isSame_str (by simp [h0, h1]) hb fun b => wpAny_pure (h b fun _ => e)
  · rw [isSame_str_other x y t u (by simp [h0, h1]) (by simpa using h2) (by simpa using e)]
    exact wpAny_pure (wpAny_pure (h false fun q => nomatch q))
end
/-- it hands back a text with a real mark and leaves no object -/
abbrev GivesT (news : List (Addr × Obj)) (R : Tok → Value) (h₀ : Heap) (La : Addr) (m : PySem.Str → Option Value) (s : Shared) (Q _E : Value → Shared → Prop) : Prop :=
  ∀ (t : Tok) (h' : Heap) (tk' : Nat), TokOK tk' t → Fr h₀ La h' m → News h₀ La h' news → Q (R t) { s with heap := h', toks := tk' }
theorem gives_strT {h₀ : Heap} {La : Addr} {m : PySem.Str → Option Value} {news : List (Addr × Obj)} {s : Shared} {Q : Value → Shared → Prop} {x y : PySem.Str} {t : Tok} {h' : Heap} {tk' : Nat}
    (hret : ∀ (t : Tok) (h' : Heap) (tk' : Nat), TokOK tk' t → Fr h₀ La h' m → News h₀ La h' news → Q (.str x t) { s with heap := h', toks := tk' }) (ht : TokOK tk' t) (F : Fr h₀ La h' m) (N : News h₀ La h' news) (e : y = x) : Q (.str y t) { s with heap := h', toks := tk' } := by
  subst e; exact hret t h' tk' ht F N
theorem toks_intro {a b : Nat} {P : Prop} (h : a ≤ b → P) : a ≤ b → P := h
theorem execs_tok {M : Model} {A : Around} {env : Env} {E : Value → Shared → Prop} {s : Shared} {st : Stmt} {rest : List Stmt} {Q : Flow → Shared → Prop}
    (h : wpAny M A (exec st env) (fun f s' => s.toks ≤ s'.toks → match f with | .next => wpAny M A (execs rest env) Q E s' | f => Q f s') E s) : wpAny M A (execs (st :: rest) env) Q E s := wpAny_execs_cons (toks_grow' h)
end
section
/-! a loop over a text's signs: each sign's mark is new -/
def SgEnd (h₀ : Heap) (L : Addr) (news own : List (Addr × Obj)) (Jn : (PySem.Str → Option Value) → Prop) (s s' : Shared) : Prop :=
  ∃ h' tk' m₂ news', s' = { s with heap := h', toks := tk' } ∧ Fr h₀ L h' m₂ ∧ News h₀ L h' news' ∧ (∀ p ∈ news, p ∈ news') ∧ (∀ p ∈ own, p ∈ news') ∧ Jn m₂
def SgPost (h₀ : Heap) (L : Addr) (news own : List (Addr × Obj)) (Jn : (PySem.Str → Option Value) → Prop) (s : Shared) (f : Flow) (s' : Shared) : Prop := match f with
  | .next | .cont => SgEnd h₀ L news own Jn s s'
  | _ => False
section
variable {prog : Program} {w : World} {A : Around} {E : Value → Shared → Prop} {s : Shared} {env : Env} {h₀ : Heap} {xv : PySem.Str} {px : Pos} {body : List Stmt} {xt : PySem.Str} {n0 : Nat} {news : List (Addr × Obj)} {m₀ : PySem.Str → Option Value}
theorem signs_loop {R : Result → Shared → Prop} {I : Addr} {St : Nat → Heap → Prop} (J : Nat → (PySem.Str → Option Value) → Prop) (W : Walks prog w A I [I] [I] xt.cps.size (SignAt xt) St)
    (item : ∀ (i c : Nat) (s : Shared) (Q : Option Value → Shared → Prop) (E : Value → Shared → Prop), xt.cps[i]? = some c → St i s.heap → (∀ h', St (i + 1) h' → Heap.SameBut I s.heap h' → Q (some (.str ⟨#[c]⟩ s.toks)) { s with heap := h', toks := s.toks + 1 }) → wpAny (model prog w) A (pyNext (.ref I)) Q E s)
    (hx : env.kindOf xv = some .local) (hp : (env.scope.kind == .class || (env.scope.kind == .module && env.locals != env.globals)) = false)
    (hI : h₀.get? I = none) (hLI : env.locals ≠ I) (hnI : ∀ p ∈ news, p.1 ≠ I) (hst : St 0 s.heap) (F : Fr h₀ env.locals s.heap m₀) (N : News h₀ env.locals s.heap news) (h0 : J 0 m₀) (hn : n0 ≤ s.toks)
    (turn : ∀ i c u m₁ h tk own, xt.cps[i]? = some c → n0 ≤ u → u < tk → J i m₁ → TbOff own news → Fr h₀ env.locals h (fun y => if y = xv then some (.str ⟨#[c]⟩ u) else m₁ y) → News h₀ env.locals h (news ++ own) →
      wpAny (model prog w) A (execs body env) (SgPost h₀ env.locals news own (J (i + 1)) s) (notedBy (model prog w) A env fun e s' => R (.error e) s') { s with heap := h, toks := tk })
    (done : ∀ h tk m₁, J xt.cps.size m₁ → Fr h₀ env.locals h m₁ → News h₀ env.locals h news → R (.ok .next) { s with heap := h, toks := tk }) :
    codeAny (model prog w) A (.forLoop (.Name xv px) (.ref I) body [] env) R s := by
  have old : ∀ b o, h₀.get? b = some o → b ≠ I := fun b o e q => by rw [q, hI] at e; cases e
  refine codeAny_forLoop
    (fun k s' => ∃ h' tk m' i, s' = { s with heap := h', toks := tk } ∧ St i h' ∧ Fr h₀ env.locals h' m' ∧ News h₀ env.locals h' news ∧ J i m' ∧ n0 ≤ tk ∧ i ≤ xt.cps.size ∧ k = xt.cps.size + 1 - i) ?_ (xt.cps.size + 1)
    ⟨s.heap, s.toks, m₀, 0, rfl, hst, F, N, h0, hn, Nat.zero_le _, rfl⟩
  rintro k s' ⟨h', tk, m', i, rfl, hst', F', N', hJ, htk, hi, rfl⟩
  by_cases hlt : i < xt.cps.size
  · refine item i xt.cps[i] _ _ _ (by simp [hlt]) hst' fun h₁ hst₁ hk₁ => ?_
    have hk₁' : ∀ b o, b ≠ I → h'.get? b = some o → h₁.get? b = some o := fun b o hb e => (hk₁.2 b hb).trans e
    have F₁ : Fr h₀ env.locals h₁ m' := ⟨F'.ns.at' fun o e => hk₁' _ o hLI e, fun b o e => hk₁' b o (old b o e) (F'.keep b o e), F'.above⟩
    have N₁ : News h₀ env.locals h₁ news := fun p hp => ⟨hk₁' _ _ (hnI p hp) (N' p hp).1, (N' p hp).2⟩
    refine wpAny_assign_Name (wpAny_storeName_local hx F₁.ns (fun h₂ hn₂ hs₂ => ?_) hp)
    have F₂ := F₁.set hn₂ hs₂
    have hLf : env.locals ∉ [I] := fun q => hLI (List.mem_singleton.mp q)
    have Nown : News h₀ env.locals h₂ (ownOf h₀ [I] h₂) := news_ownOf hLf
    have hst₂ : St (i + 1) h₂ := W.frame _ _ _ hst₁ fun b hb o e => (hs₂.2 b fun q => hLf (q ▸ hb)).trans e
    have hoff : TbOff (ownOf h₀ [I] h₂) news := fun p hp q hq e => by
      have := ownOf_sub p hp
      exact hnI q hq (by rw [← e]; exact List.mem_singleton.mp this)
    refine toks_grow' (wpAny_mono (turn i xt.cps[i] tk m' h₂ _ (ownOf h₀ [I] h₂) (by simp [hlt]) htk (by show tk < tk + 1 + 1; omega) hJ hoff F₂ (fun p hp => (List.mem_append.mp hp).elim (fun q => (N₁.set hs₂) p q) fun q => Nown p q)) (fun f s₃ h₃ hle => ?_) fun _ _ e => e)
    have fin : SgEnd h₀ env.locals news (ownOf h₀ [I] h₂) (J (i + 1)) s s₃ → n0 ≤ s₃.toks → ∃ m, m < xt.cps.size + 1 - i ∧ ∃ h' tk m' i, s₃ = { s with heap := h', toks := tk } ∧ St i h' ∧ Fr h₀ env.locals h' m' ∧ News h₀ env.locals h' news ∧ J i m' ∧ n0 ≤ tk ∧ i ≤ xt.cps.size ∧ m = xt.cps.size + 1 - i := by
      rintro ⟨h₃', tk₃, m₂, news₂, rfl, F₃, N₃, ha₃, ho₃, hJ₃⟩ hle
      refine ⟨xt.cps.size + 1 - (i + 1), by omega, h₃', tk₃, m₂, i + 1, rfl, ?_, F₃, fun p hp => N₃ p (ha₃ p hp), hJ₃, hle, hlt, rfl⟩
      refine W.frame _ _ _ hst₁ fun b hb o e => ?_
      have e₂ : h₂.get? b = some o := (hs₂.2 b fun q => hLf (q ▸ hb)).trans e
      cases hn : h₀.get? b with
      | some o₀ =>
        have : o₀ = o := by have := F₂.keep b o₀ hn; rw [e₂] at this; exact (Option.some.inj this).symm
        exact this ▸ F₃.keep b o₀ hn
      | none => exact (N₃ _ (ho₃ _ (mem_ownOf hb hn e₂))).1
    have hle' : n0 ≤ s₃.toks := Nat.le_trans htk (Nat.le_trans (by show tk ≤ tk + 1 + 1; omega) hle)
    cases f with
    | next => exact fin h₃ hle'
    | cont => exact fin h₃ hle'
    | brk => exact h₃.elim
    | ret v => exact h₃.elim
  · have hin : i = xt.cps.size := by omega
    subst hin
    refine W.done _ _ _ hst' fun h₁ tk₁ hk₁ => wpAny_execs_nil ?_
    have hk₁' : ∀ b o, b ≠ I → h'.get? b = some o → h₁.get? b = some o := fun b o hb e => hk₁ b o (fun q => hb (List.mem_singleton.mp q)) e
    exact done h₁ tk₁ m' hJ ⟨F'.ns.at' fun o e => hk₁' _ o hLI e, fun b o e => hk₁' b o (old b o e) (F'.keep b o e), F'.above⟩ fun p hp => ⟨hk₁' _ _ (hnI p hp) (N' p hp).1, (N' p hp).2⟩
theorem for_signs {iter : Expr} {pos : Pos} {t : Tok} {Q : Flow → Shared → Prop} (J : Nat → (PySem.Str → Option Value) → Prop) (hh : A.handled = none)
    (hx : env.kindOf xv = some .local) (hp : (env.scope.kind == .class || (env.scope.kind == .module && env.locals != env.globals)) = false)
    (hs : ∀ x, foldedSetIterable iter env x = pure x) (hE : PassesOwn (model prog w) A env E)
    (hit : ∀ Q', Q' (.str xt t) s → wpAny (model prog w) A (eval iter env) Q' E s)
    (F : Fr h₀ env.locals s.heap m₀) (N : News h₀ env.locals s.heap news) (h0 : J 0 m₀) (hn : n0 ≤ s.toks)
    (turn : ∀ i c u m₁ h tk own, xt.cps[i]? = some c → n0 ≤ u → u < tk → J i m₁ → TbOff own news → Fr h₀ env.locals h (fun y => if y = xv then some (.str ⟨#[c]⟩ u) else m₁ y) → News h₀ env.locals h (news ++ own) →
      wpAny (model prog w) A (execs body env) (SgPost h₀ env.locals news own (J (i + 1)) s) E { s with heap := h, toks := tk })
    (done : ∀ h tk m₁, J xt.cps.size m₁ → Fr h₀ env.locals h m₁ → News h₀ env.locals h news → Q .next { s with heap := h, toks := tk }) :
    wpAny (model prog w) A (exec (.For (.Name xv px) iter body [] pos) env) Q E s := by
  refine wpAny_For (hit _ ?_) hs
  have hI : ∀ o : PySem.Obj, (s.heap.push o).get? s.heap.objs.size = (s.heap.push o).get? s.heap.objs.size := fun _ => rfl
  have hlt : ∀ p ∈ news, p.1 ≠ s.heap.objs.size := fun p hp q => absurd (Heap.lt_size (N p hp).1) (q ▸ Nat.lt_irrefl _)
  have hL : env.locals ≠ s.heap.objs.size := fun q => absurd F.ns.lt (q ▸ Nat.lt_irrefl _)
  cases ha : xt.cps.all (· < 128)
  · refine wpAny_pyIter_wide ha ?_
    refine signs_loop (St := fun i h => h.IsStrIter s.heap.objs.size "str_iterator" xt t i) J (Walks.strWide hh _ xt t) (fun i c s' Q' E' hc hst h => wpAny_pyNext_wide_item hst hc h) hx hp (next_is_new F) hL hlt ⟨_, Heap.get?_push_size _ rfl, rfl, rfl⟩ (F.push _) (News.pushKeep N _) h0 hn (fun i c u m₁ h tk own hc hu hu' hJ ho F₁ N₁ => ?_) fun h tk m₁ hJ F₁ N₁ => done h tk m₁ hJ F₁ N₁
    exact wpAny_passesOwn hE (turn i c u m₁ h tk own hc hu hu' hJ ho F₁ N₁)
  · refine wpAny_pyIter_ascii ha ?_
    refine signs_loop (St := fun i h => h.IsStrIter s.heap.objs.size "str_ascii_iterator" xt t i) J (Walks.strAscii hh _ xt t) (fun i c s' Q' E' hc hst h => wpAny_pyNext_ascii_item hst hc h) hx hp (next_is_new F) hL hlt ⟨_, Heap.get?_push_size _ rfl, rfl, rfl⟩ (F.push _) (News.pushKeep N _) h0 hn (fun i c u m₁ h tk own hc hu hu' hJ ho F₁ N₁ => ?_) fun h tk m₁ hJ F₁ N₁ => done h tk m₁ hJ F₁ N₁
    exact wpAny_passesOwn hE (turn i c u m₁ h tk own hc hu hu' hJ ho F₁ N₁)
end
end
section
/-! a loop over a short range, turn by turn, whatever its target -/
/-- the floor of the counter to be kept -/
def Floor (_ : Nat) : Prop := True
def OffN (d : Nat) : List (Addr × PySem.Obj) → Prop
  | [] => True
  | p :: r => @Ne Nat p.1 d ∧ OffN d r
theorem offN_of {d : Addr} : ∀ {l : List (Addr × PySem.Obj)}, (∀ p ∈ l, p.1 ≠ d) → OffN d l
  | [], _ => trivial
  | p :: _, h => ⟨h p (.head _), offN_of fun q hq => h q (.tail _ hq)⟩
def ForEnd (h₀ : Heap) (L : Addr) (s₁ : Shared) (I : Addr) (oI : PySem.Obj) (rest : (PySem.Str → Option Value) → List (Addr × PySem.Obj) → Prop) (s₂ : Shared) : Prop :=
  ∃ h' tk m' news', s₂ = { s₁ with heap := h', toks := tk } ∧ Fr h₀ L h' m' ∧ News h₀ L h' ((I, oI) :: news') ∧ (∀ p ∈ news', p.1 ≠ I) ∧ rest m' news'
def ForPost (h₀ : Heap) (L : Addr) (s₁ : Shared) (I : Addr) (oI : PySem.Obj) (rest : (PySem.Str → Option Value) → List (Addr × PySem.Obj) → Prop) (Q : Flow → Shared → Prop) (f : Flow) (s₂ : Shared) : Prop := match f with
  | .ret v => Q (.ret v) s₂
  | .brk => Q .next s₂
  | _ => ForEnd h₀ L s₁ I oI rest s₂
def ForRest (prog : Program) (w : World) (A : Around) (E : Value → Shared → Prop) (h₀ : Heap) (L : Addr) (env : Env) (target : Expr) (body : List Stmt) (Q : Flow → Shared → Prop) (n0 : Nat) (s : Shared) (a c : Int) : Nat → Nat → (PySem.Str → Option Value) → List (Addr × PySem.Obj) → Prop
  | 0, _, m, news => ∀ h tk, n0 ≤ tk → Fr h₀ L h m → News h₀ L h news → Q .next { s with heap := h, toks := tk }
  | k + 1, i, m, news => ∀ t I oI h tk v, v = a + (i : Int) * c → n0 ≤ tk → oI.cls = .type "range_iterator" → Fr h₀ L h m → News h₀ L h ((I, oI) :: news) → (∀ p ∈ news, p.1 ≠ I) →
      wpAny (model prog w) A (assign target env (.int v t)) (fun _ s₂ => wpAny (model prog w) A (execs body env)
        (ForPost h₀ L s I oI (ForRest prog w A E h₀ L env target body Q n0 s a c k (i + 1)) Q) E s₂) E { s with heap := h, toks := tk }
def ForSrc (prog : Program) (w : World) (A : Around) (E : Value → Shared → Prop) (h₀ : Heap) (L : Addr) (env : Env) (target : Expr) (body : List Stmt) (Q : Flow → Shared → Prop) (n0 : Nat) (xv : Value) (s₁ : Shared) : Prop :=
  ∃ r a b c t u v n m news, xv = .ref r ∧ Fr h₀ L s₁.heap m ∧ News h₀ L s₁.heap news ∧ IsRange s₁.heap r a b c t u v ∧ Builtin.Range.small a b c = true ∧ Builtin.Range.rangeSize a b c = ((n : Nat) : Int) ∧ ForRest prog w A E h₀ L env target body Q n0 s₁ a c n 0 m news
section
variable {prog : Program} {w : World} {A : Around} {E : Value → Shared → Prop} {s : Shared} {env : Env} {h₀ : Heap} {L : Addr} {target iter : Expr} {body : List Stmt} {Q : Flow → Shared → Prop} {n0 : Nat}
theorem forSrc_range {r : Addr} {a b c : Int} {t u v : Tok} (n : Nat) {m : PySem.Str → Option Value} {news : List (Addr × PySem.Obj)} (F : Fr h₀ L s.heap m) (N : News h₀ L s.heap news) (hr : IsRange s.heap r a b c t u v) (hs : Builtin.Range.small a b c = true) (hn : Builtin.Range.rangeSize a b c = ((n : Nat) : Int))
    (h : ForRest prog w A E h₀ L env target body Q n0 s a c n 0 m news) : ForSrc prog w A E h₀ L env target body Q n0 (.ref r) s := ⟨r, a, b, c, t, u, v, n, m, news, rfl, F, N, hr, hs, hn, h⟩
theorem for_range (_hf : Floor n0) {pos : Pos} {m₀ : PySem.Str → Option Value} (_F : Fr h₀ L s.heap m₀) (hle : n0 ≤ s.toks) (hh : A.handled = none) (h : wpAny (model prog w) A (eval iter env) (ForSrc prog w A E h₀ L env target body Q n0) E s)
    (hs : ∀ x, foldedSetIterable iter env x = pure x := by intro _; rfl) (ht : ∀ it v, letOwnedTupleGo target it v = pure () := by intro _ _; rfl) (hE : PassesOwn (model prog w) A env E := by passes_own) :
    wpAny (model prog w) A (exec (.For target iter body [] pos) env) Q E s := by
  refine wpAny_For (toks_grow' (wpAny_mono h (fun xv s₁ h₁ hle₁ => ?_) fun _ _ e => e)) hs
  have hn0 : n0 ≤ s₁.toks := Nat.le_trans hle hle₁
  obtain ⟨r, a, b, c, t, u, v, n, m, news, rfl, F, N, hr, hsm, hn, R⟩ := h₁
  refine wpAny_pyIter_range hr hsm ?_
  have W := Walks.range (prog := prog) (w := w) hh s₁.heap.objs.size a c n
  have hL : L ≠ s₁.heap.objs.size := fun q => absurd F.ns.lt (q ▸ Nat.lt_irrefl _)
  have hI := next_is_new F
  have old : ∀ b o, h₀.get? b = some o → b ≠ s₁.heap.objs.size := fun b o e q => by rw [q, hI] at e; cases e
  generalize hII : s₁.heap.objs.size = I at *
  refine codeAny_forLoop
    (fun k s' => ∃ h' tk m' news' i, s' = { s₁ with heap := h', toks := tk } ∧ IsRangeIter h' I (a + (i : Nat) * c) ((n : Int) - (i : Nat)) c ∧ Fr h₀ L h' m' ∧ News h₀ L h' news' ∧ (∀ p ∈ news', p.1 ≠ I) ∧ ForRest prog w A E h₀ L env target body Q n0 s₁ a c (n - i) i m' news' ∧ i ≤ n ∧ n0 ≤ tk ∧ k = n + 1 - i) ?_ (n + 1)
    ⟨_, s₁.toks, m, news, 0, rfl, ?_, F.push _, News.pushKeep N _, fun p hp q => absurd (Heap.lt_size (N p hp).1) (by rw [q, hII]; exact Nat.lt_irrefl _), R, Nat.zero_le _, hn0, rfl⟩ (ht _)
  · rintro k s' ⟨h', tk, m', news', i, rfl, hst, F', N', off, R', hi, htk, rfl⟩
    by_cases hlt : i < n
    · obtain ⟨j, hj⟩ : ∃ j, n - i = j + 1 := ⟨n - i - 1, (Nat.sub_add_cancel (Nat.sub_pos_of_lt hlt)).symm⟩
      rw [hj] at R'
      refine toks_grow' (W.item i _ _ _ hlt hst fun v h₁ tk₁ hP hst₁ hk₁ le₁ => ?_)
      have le₁' : n0 ≤ tk₁ := Nat.le_trans htk le₁
      obtain ⟨tv, rfl⟩ := hP
      have hk₁' : ∀ b o, b ≠ I → h'.get? b = some o → h₁.get? b = some o := fun b o hb e => hk₁ b o (fun q => hb (List.mem_singleton.mp q)) e
      have F₁ : Fr h₀ L h₁ m' := ⟨F'.ns.at' fun o e => hk₁' _ o hL e, fun b o e => hk₁' b o (old b o e) (F'.keep b o e), F'.above⟩
      have N₁ : News h₀ L h₁ news' := fun p hp => ⟨hk₁' _ _ (off p hp) (N' p hp).1, (N' p hp).2⟩
      have N₂ : News h₀ L h₁ ((I, _) :: news') := fun p hp => by
        rcases List.mem_cons.mp hp with rfl | hp
        · exact ⟨hst₁, Ne.symm hL, hI⟩
        · exact N₁ p hp
      refine wpAny_passesOwn hE (toks_grow' (wpAny_mono (R' tv I _ h₁ tk₁ _ rfl le₁' rfl F₁ N₂ off) (fun _ s₂ h₂ le₂ => wpAny_passesOwn hE (toks_grow' (wpAny_mono h₂ (fun f s₃ h₃ le₃ => ?_) fun _ _ e => e))) fun _ _ e => e))
      have le₃' : n0 ≤ s₃.toks := Nat.le_trans le₁' (Nat.le_trans le₂ le₃)
      have fin : ForEnd h₀ L s₁ I { cls := .type "range_iterator", data := .fields #[rawInt (a + ((i + 1 : Nat) : Int) * c), rawInt ((n : Int) - ((i + 1 : Nat) : Int)), rawInt c] } (ForRest prog w A E h₀ L env target body Q n0 s₁ a c j (i + 1)) s₃ → ∃ m, m < n + 1 - i ∧ ∃ h' tk m' news' i, s₃ = { s₁ with heap := h', toks := tk } ∧ IsRangeIter h' I (a + (i : Nat) * c) ((n : Int) - (i : Nat)) c ∧ Fr h₀ L h' m' ∧ News h₀ L h' news' ∧ (∀ p ∈ news', p.1 ≠ I) ∧ ForRest prog w A E h₀ L env target body Q n0 s₁ a c (n - i) i m' news' ∧ i ≤ n ∧ n0 ≤ tk ∧ m = n + 1 - i := by
        rintro ⟨hx, tk₃, m₃, news₃, rfl, F₃, N₃, off₃, R₃⟩
        refine ⟨n + 1 - (i + 1), Nat.sub_lt_sub_left (Nat.lt_succ_of_lt hlt) (Nat.lt_succ_self i), hx, tk₃, m₃, news₃, i + 1, rfl, (N₃ _ (.head _)).1, F₃, fun p hp => N₃ p (.tail _ hp), off₃, ?_, hlt, le₃', rfl⟩
        rw [show n - (i + 1) = j by rw [Nat.sub_succ, hj]; rfl]; exact R₃
      cases f with
      | ret v => exact h₃
      | brk => exact h₃
      | next => exact fin h₃
      | cont => exact fin h₃
    · obtain rfl : i = n := Nat.le_antisymm hi (Nat.not_lt.mp hlt)
      rw [Nat.sub_self] at R'
      refine toks_grow' (W.done _ _ _ hst fun h₂ tk₂ hk₂ le₁ => wpAny_execs_nil ?_)
      have hk₁' : ∀ b o, b ≠ I → h'.get? b = some o → h₂.get? b = some o := fun b o hb e => hk₂ b o (fun q => hb (List.mem_singleton.mp q)) e
      exact R' h₂ tk₂ (Nat.le_trans htk le₁) ⟨F'.ns.at' fun o e => hk₁' _ o hL e, fun b o e => hk₁' b o (old b o e) (F'.keep b o e), F'.above⟩ fun p hp => ⟨hk₁' _ _ (off p hp) (N' p hp).1, (N' p hp).2⟩
  · show _ = some _
    rw [hn, ← hII]
    simpa using Heap.get?_push_size _ rfl
end
theorem for_end1 {h₀ h' : Heap} {L I : Addr} {oI : PySem.Obj} {s₁ : Shared} {rest : (PySem.Str → Option Value) → List (Addr × PySem.Obj) → Prop} {m' : PySem.Str → Option Value} {tk : Nat} {x : Addr × PySem.Obj} {news₁ news' : List (Addr × PySem.Obj)}
    (off : ∀ p ∈ news₁, p.1 ≠ I) (F : Fr h₀ L h' m') (N : News h₀ L h' (x :: (I, oI) :: news')) (e : news₁.map Prod.fst = news'.map Prod.fst) (h : rest m' news') : ForEnd h₀ L s₁ I oI rest { s₁ with heap := h', toks := tk } := by
  refine ⟨h', tk, m', news', rfl, F, fun p hp => N p (.tail _ hp), fun p hp q => ?_, h⟩
  have : p.1 ∈ news₁.map Prod.fst := e ▸ List.mem_map_of_mem hp
  obtain ⟨p', hp', e'⟩ := List.mem_map.mp this
  exact off p' hp' (e'.trans q)
theorem gives_drop4 {h₀ h' : Heap} {La : Addr} {m : PySem.Str → Option Value} {R : Tok → Value} {s : Shared} {Q : Value → Shared → Prop} {a b c d : Addr × PySem.Obj} {news : List (Addr × PySem.Obj)} {t : Tok} {tk' : Nat}
    (hret : ∀ (t : Tok) (h' : Heap) (tk' : Nat), Fr h₀ La h' m → News h₀ La h' news → Q (R t) { s with heap := h', toks := tk' }) (F : Fr h₀ La h' m) (N : News h₀ La h' (a :: b :: c :: d :: news)) : Q (R t) { s with heap := h', toks := tk' } :=
  hret t h' tk' F fun p hp => N p (.tail _ (.tail _ (.tail _ (.tail _ hp))))
/-- it grew to here -/
def TGrow (n : Nat) (Q : Value → Shared → Prop) : Value → Shared → Prop := fun v s' => n ≤ s'.toks → Q v s'
theorem tgrow {M : Model} {A : Around} {t : Sem Value} {E : Value → Shared → Prop} {s : Shared} {Q : Value → Shared → Prop} (h : wpAny M A t (TGrow s.toks Q) E s) : wpAny M A t Q E s := toks_grow' h
theorem tgrow_out {n : Nat} {Q : Value → Shared → Prop} {v : Value} {s' : Shared} (h : n ≤ s'.toks → Q v s') : TGrow n Q v s' := h
section
variable {prog : Program} {w : World} {A₀ A : Around} {s : Shared} {base h₀ : Heap} {L : Addr} {m mg mb : PySem.Str → Option Value} {news : List (Addr × PySem.Obj)} {K : Frag} {p : Program} {loose : List PySem.Str} {mean : ExcName → Option Value}
/-- a call of a function of the text that has cells, and the counter as it goes in -/
theorem enter_cells {env : Env} {outer : List Env} {R : PySem.Result → Shared → Prop} {name qual : PySem.Str} {params : Arguments} {body : List Stmt} {scope : Scope} {dV kV doc pm cdv ct oc : Value} {an od : Option Addr} {osl : Array (Option Value)} {f : Addr} {args : Args} {binds : List (PySem.Str × Value)}
    (B : Below A₀ base outer h₀) (F : Fr h₀ L s.heap m) (X : K.In h₀) (N : News h₀ L s.heap news) (T : Top p loose mean mg mb h₀) (hA : A.frames = some (env :: outer)) (hf : env.frame = some L) (hke : env.scope.kind = .function)
    (ho : K.lookup f = some ⟨oc, od, .func (fnOf name qual params body scope dV kV doc pm an cdv ct), osl⟩) (hcd : codeIn K cdv qual = true) (hroom : A.depth < recursionLimit)
    (hbind : BindsTo s (fnOf name qual params body scope dV kV doc pm an cdv ct) args binds) (hkind : (binds.all fun y => scope.names.lookup y.1 == some .local || scope.names.lookup y.1 == some .cell) = true)
    (hnd : ((cellsFrom 0 scope.names []).map (·.1)).Nodup)
    (h : ∀ g L' h₁ tk cells, s.toks ≤ tk → Fr h₀ L g m → Fr g L' h₁ (bindL (envOfC qual scope L' f cdv).kindOf binds fun _ => none) → News g L' h₁ (cells ++ news) →
      CellsAre (bindC (envOfC qual scope L' f cdv).kindOf binds fun _ => none) (cellsFrom (L' + 1) scope.names []) cells → Below A base (env :: outer) g → K.In g → Top p loose mean mg mb g → (∀ p ∈ news, p.1 < L') →
      wpAny (model prog w) (A.deeper (envOfC qual scope L' f cdv)) (execs body (envOfC qual scope L' f cdv))
        (fun fl s' => LeaveK h₀ L m g R (match fl with | .ret v => v | _ => .none) s')
        (fun e s' => wpAny (model prog w) (A.deeper (envOfC qual scope L' f cdv)) (leaving (envOfC qual scope L' f cdv) e) (fun _ s'' => R (.error e) s'') (fun e' s'' => R (.error e') s'') s')
        { s with heap := h₁, toks := tk })
    (hco : scope.isCoroutine = false) (hgen : scope.isGenerator = false) (hk : scope.kind = .function) : codeAny (model prog w) A (.call (.ref f) args) R s := by
  obtain ⟨FG, BG, st, lv⟩ := groundX (R := R) B F N hA hf hke
  refine codeAny_call_function hroom ((X.keeps F.keep) _ _ ho) rfl hco hgen rfl (codeRec_of (X.keeps F.keep) hcd) (hbind _ _ _ _ (toks_grow' (wpAny_newFunctionEnv_cells hk (kindsX hkind _) fun env' he s' x hle => ?_)))
  subst he
  refine ⟨(T.nolimit.keeps F.keep).keeps x.toInCall.keep, codeAny_func ?_⟩
  have keeps := x.toInCall.keep
  have inside := x.toInCall.ns
  obtain ⟨cells, NC, Y⟩ := Cl.news (h₀ := s.heap) (Nat.le_refl _) fun n c hm => ⟨x.cell n c (lookup_of_mem_nodup (cellsFrom_names scope.names 0 (s.heap.objs.size + 1) [] [] rfl ▸ hnd) hm), x.above n c hm⟩
  obtain ⟨h₁, tk, rfl, _⟩ := x.done
  have lt : ∀ q ∈ news, q.1 < s.heap.objs.size := fun q hq => Heap.lt_size (N q hq).1
  have F₁ : Fr (hideAll s.heap (news.map (·.1))) s.heap.objs.size h₁ _ := ⟨inside, fun b o e => keeps b o (of_hideAll _ e), Nat.le_of_eq (hideAll_size _ _)⟩
  have N₁ : News (hideAll s.heap (news.map (·.1))) s.heap.objs.size h₁ (cells ++ news) := by
    intro q hq
    rcases List.mem_append.mp hq with hq | hq
    · obtain ⟨e1, e2, e3⟩ := NC q hq
      refine ⟨e1, e2, ?_⟩
      cases z : (hideAll s.heap (news.map (·.1))).get? q.1 with
      | none => rfl
      | some o => exact absurd (of_hideAll _ z) (by rw [e3]; exact nofun)
    · exact ⟨keeps _ _ (N q hq).1, Nat.ne_of_lt (lt q hq), hideAll_none _ (List.mem_map_of_mem hq)⟩
  exact wpAny_mono (h _ s.heap.objs.size h₁ tk cells hle FG F₁ N₁ Y BG (X.keeps st) (T.keeps st) lt) (fun fl s' hl => lv _ _ hl) fun _ _ y => y
end
/-- turn by turn, each from what is known at its start -/
theorem forRest_of {prog : Program} {w : World} {A : Around} {E : Value → Shared → Prop} {s : Shared} {env : Env} {h₀ : Heap} {L : Addr} {target : Expr} {body : List Stmt} {Q : Flow → Shared → Prop} {n0 : Nat} {a c : Int} {m : PySem.Str → Option Value} (J : Nat → List (Addr × PySem.Obj) → Prop) (n : Nat)
    (turn : ∀ i news, i < n → J i news → ∀ t I oI h tk v, v = a + (i : Int) * c → n0 ≤ tk → oI.cls = .type "range_iterator" → Fr h₀ L h m → News h₀ L h ((I, oI) :: news) → (∀ p ∈ news, p.1 ≠ I) →
      wpAny (model prog w) A (assign target env (.int v t)) (fun _ s₂ => wpAny (model prog w) A (execs body env)
        (ForPost h₀ L s I oI (fun m' news' => m' = m ∧ J (i + 1) news') Q) E s₂) E { s with heap := h, toks := tk })
    (done : ∀ news h tk, J n news → n0 ≤ tk → Fr h₀ L h m → News h₀ L h news → Q .next { s with heap := h, toks := tk }) :
    ∀ k i news, i + k = n → J i news → ForRest prog w A E h₀ L env target body Q n0 s a c k i m news
  | 0, i, news, e, hJ => fun h tk le F N => done news h tk (by rw [← e]; exact hJ) le F N
  | k + 1, i, news, e, hJ => by
    intro t I oI h tk v ev le hc F N off
    refine wpAny_mono (turn i news (by omega) hJ t I oI h tk v ev le hc F N off) (fun _ s₂ h₂ => wpAny_mono h₂ (fun f s₃ h₃ => ?_) fun _ _ e => e) fun _ _ e => e
    have fin : ForEnd h₀ L s I oI (fun m' news' => m' = m ∧ J (i + 1) news') s₃ → ForEnd h₀ L s I oI (ForRest prog w A E h₀ L env target body Q n0 s a c k (i + 1)) s₃ := by
      rintro ⟨h', tk', m', news', rfl, F', N', off', rfl, J'⟩
      exact ⟨h', tk', _, news', rfl, F', N', off', forRest_of J n turn done k (i + 1) news' (by omega) J'⟩
    cases f with
    | ret v => exact h₃
    | brk => exact h₃
    | next => exact fin h₃
    | cont => exact fin h₃
end
section
abbrev PR : Program := PySem.Challenge.rw_wo0069_01.row.prog
/-- a call of a def of the text: where it may stand, and what it hands on -/
abbrev Fn (w : World) (f : Addr) (dk uk : Nat) (vs : List Value) (news : List (Addr × Obj)) (Post : Heap → Addr → (PySem.Str → Option Value) → Shared → (Value → Shared → Prop) → (Value → Shared → Prop) → Prop) : Prop :=
  ∀ {mean : ExcName → Option Value} {mg mb : PySem.Str → Option Value} {dp un : Nat} {gd : Option (List Code)} {cn : PySem.Str} {cs : Scope} {a : Addr} {ccd : Value} {cl : List (PySem.Str × Addr)} {outer : List Env} {A₀ : Around} {base h₀ : Heap} {La : Addr} {m : PySem.Str → Option Value} {s : Shared} {Q E : Value → Shared → Prop},
    Below A₀ base outer h₀ → Fr h₀ La s.heap m → (hd.heap_39 w.params).In h₀ → News h₀ La s.heap news → Top hd.view_39 (looseW hd.view_39 [PySem.Str.ofString "Whitespace", PySem.Str.ofString "EXACT_TOKEN_TYPES"]) mean mg mb h₀ → cs.kind = .function → dp + dk < recursionLimit → un + uk < cLine → Post h₀ La m s Q E →
    wpAny (model PR w) (ktrTop dp un gd cn cs La a ccd cl outer) (call (.ref f) vs) Q E s
/-- it hands back a plain value and leaves no object -/
abbrev Gives (news : List (Addr × Obj)) (R : Tok → Value) (h₀ : Heap) (La : Addr) (m : PySem.Str → Option Value) (s : Shared) (Q _E : Value → Shared → Prop) : Prop :=
  ∀ (t : Tok) (h' : Heap) (tk' : Nat), Fr h₀ La h' m → News h₀ La h' news → Q (R t) { s with heap := h', toks := tk' }
theorem gives_str {h₀ : Heap} {La : Addr} {m : PySem.Str → Option Value} {news : List (Addr × Obj)} {s : Shared} {Q : Value → Shared → Prop} {x y : PySem.Str} {t : Tok} {h' : Heap} {tk' : Nat}
    (hret : ∀ (t : Tok) (h' : Heap) (tk' : Nat), Fr h₀ La h' m → News h₀ La h' news → Q (.str x t) { s with heap := h', toks := tk' }) (F : Fr h₀ La h' m) (N : News h₀ La h' news) (e : y = x) : Q (.str y t) { s with heap := h', toks := tk' } := by
  subst e; exact hret t h' tk' F N
theorem dbl_ofString (x : PySem.Str) : sg (PySem.Txt.replace x (PySem.Str.ofString "\"") (PySem.Str.ofString "\"\"")) = dbl 34 (sg x) := by
  have e1 : PySem.Str.ofString "\"" = ⟨#[34]⟩ := by decide +kernel
  have e2 : PySem.Str.ofString "\"\"" = ⟨#[34, 34]⟩ := by decide +kernel
  rw [e1, e2]; exact PySem.StrLaws.replace_double x 34
theorem dbl_ofString_len (x : PySem.Str) : (PySem.Txt.replace x (PySem.Str.ofString "\"") (PySem.Str.ofString "\"\"")).length ≤ 2 * x.length := by
  rw [sg_len, dbl_ofString, sg_len]; exact dbl_le _ _
/-- a text in quotation marks, each mark within doubled -/
def qd (l : List Nat) : List Nat := 34 :: (dbl 34 l ++ [34])
theorem sg_mark : sg (PySem.Str.ofString "\"") = [34] := by decide +kernel
theorem qd_is (x : PySem.Str) : PySem.Str.ofString "\"" ++ PySem.Txt.replace x (PySem.Str.ofString "\"") (PySem.Str.ofString "\"\"") ++ PySem.Str.ofString "\"" = tx (qd (sg x)) := by
  apply sg_inj; rw [sg_app, sg_app, sg_mark, dbl_ofString, sg_tx]; rfl
theorem gives_bool {h₀ : Heap} {La : Addr} {m : PySem.Str → Option Value} {news : List (Addr × Obj)} {s : Shared} {Q : Value → Shared → Prop} {x y : Bool} {h' : Heap} {tk' : Nat}
    (hret : ∀ (t : Tok) (h' : Heap) (tk' : Nat), Fr h₀ La h' m → News h₀ La h' news → Q (.bool x) { s with heap := h', toks := tk' }) (F : Fr h₀ La h' m) (N : News h₀ La h' news) (e : y = x) : Q (.bool y) { s with heap := h', toks := tk' } := by
  subst e; exact hret 0 h' tk' F N
theorem drop_own {h₀ h : Heap} {La : Addr} {news own : List (Addr × Obj)} (N : News h₀ La h (news ++ own)) : News h₀ La h news := fun p hp => N p (List.mem_append.mpr (.inl hp))
end
section
set_option maxHeartbeats 8000000 in
theorem quoted_c {w : World} {x : PySem.Str} {t : Tok} (hx : x.length ≤ 100000) {news : List (Addr × Obj)} :
    Fn w 185 1 8 [Value.str x t] news (Gives news fun t => Value.str (tx (qd (sg x))) t) := by
  intro mean mg mb dp un gd cn cs a ccd cl outer A₀ base h₀ La m s Q E B F X N T hk hd hu hret
  k_with_none
  w_top off
  have hlen := dbl_ofString_len x
  refine wpAny_call ?_
  k_dflt cell_enter
  k_steps
  all_goals (refine gives_str hret (by k_asm) (by k_asm) ?_; exact qd_is x)
end
section
/-- parse257's loop: what has been gathered, and what is still to come -/
def PI (x : PySem.Str) (i : Int) (d : PySem.Str) : Prop := sg d ++ pq ((sg x).drop i.toNat) = pq ((sg x).drop 5)
abbrev PInv (x : PySem.Str) (i : Int) (d : PySem.Str) : Prop := 5 ≤ i ∧ i ≤ x.length ∧ d.length ≤ x.length ∧ PI x i d ∧ (d.length : Int) + 5 ≤ i
theorem pinv_end {x d : PySem.Str} {i : Int} (h1 : 5 ≤ i) (h2 : i ≤ x.length) (h3 : d.length ≤ x.length) (h4 : PI x i d) (h5 : (d.length : Int) + 5 ≤ i) (hi : ¬ i < x.length) : d = tx (pq ((sg x).drop 5)) := by
  unfold PI at h4
  apply sg_inj
  rw [sg_tx, ← h4, List.drop_eq_nil_of_le (by rw [← sg_len]; omega)]
  simp [pq]
theorem pinv_brk {x d : PySem.Str} {i : Int} (h1 : 5 ≤ i) (h2 : i ≤ x.length) (h3 : d.length ≤ x.length) (h4 : PI x i d) (h5 : (d.length : Int) + 5 ≤ i) (hi : i < x.length) (hc : (PySem.Txt.item x i == PySem.Str.ofString "\"") = true)
    (hb : x.length ≤ i + 1 ∨ (¬ (x.length : Int) ≤ i + 1 ∧ (PySem.Txt.item x (i + 1) != PySem.Str.ofString "\"") = true)) : d = tx (pq ((sg x).drop 5)) := by
  unfold PI at h4
  obtain ⟨c, e1, e2, e3⟩ := item_at x (Int.le_trans (by decide) h1) hi
  have hq : PySem.Str.ofString "\"" = tx [34] := by decide +kernel
  rw [e2, hq] at hc
  have hc : c = 34 := tx_one_eq.mp (by simpa using hc)
  apply sg_inj
  rw [sg_tx, ← h4, e3, hc]
  rcases hb with hb | ⟨hb, hn⟩
  · rw [List.drop_eq_nil_of_le (by rw [← sg_len]; omega), pq_last]; simp
  · obtain ⟨c', f1, f2, f3⟩ := item_at x (i := i + 1) (Int.le_trans (by decide) (Int.le_add_one h1)) (Int.not_le.1 hb)
    rw [f2, hq] at hn
    have hn : c' ≠ 34 := fun e => bne_true hn (tx_one_eq.mpr e)
    rw [toNat_up (Int.le_trans (by decide) h1), f3, pq_end hn]; simp
theorem pinv_two {x d : PySem.Str} {i : Int} (h1 : 5 ≤ i) (h2 : i ≤ x.length) (h3 : d.length ≤ x.length) (h4 : PI x i d) (h5 : (d.length : Int) + 5 ≤ i) (hi : i < x.length) (hc : (PySem.Txt.item x i == PySem.Str.ofString "\"") = true)
    (hb : ¬ (x.length : Int) ≤ i + 1) (hn : (PySem.Txt.item x (i + 1) != PySem.Str.ofString "\"") = false) : PInv x (i + 1 + 1) (d ++ PySem.Txt.item x i) := by
  unfold PI at h4
  obtain ⟨c, e1, e2, e3⟩ := item_at x (Int.le_trans (by decide) h1) hi
  have hq : PySem.Str.ofString "\"" = tx [34] := by decide +kernel
  rw [e2, hq] at hc
  have hc : c = 34 := tx_one_eq.mp (by simpa using hc)
  obtain ⟨c', f1, f2, f3⟩ := item_at x (i := i + 1) (Int.le_trans (by decide) (Int.le_add_one h1)) (Int.not_le.1 hb)
  rw [f2, hq] at hn
  have hn : c' = 34 := tx_one_eq.mp (bne_false hn)
  have hl : (d ++ PySem.Txt.item x i).length = d.length + 1 := by rw [e2, sg_len, sg_app, sg_tx, sg_len]; simp
  refine ⟨by omega, by omega, by rw [hl]; omega, ?_, by rw [hl]; omega⟩
  unfold PI
  rw [sg_app, ← h4, e2, sg_tx, e3, hc, toNat_up (Int.le_trans (by decide) h1), f3, hn, pq_two, toNat_up (Int.le_trans (by decide) (Int.le_add_one h1)), sg_tx]
  simp
theorem less_one {n : Nat} {i : Int} (h : 5 ≤ i) (h2 : i < n) : n - (i + 1).toNat < n - i.toNat := by omega
theorem less_two {n : Nat} {i : Int} (h : 5 ≤ i) (h2 : i < n) : n - (i + 1 + 1).toNat < n - i.toNat := Nat.lt_of_le_of_lt (Nat.sub_le_sub_left (Int.toNat_le_toNat (Int.le_add_one (Int.le_refl _))) n) (less_one h h2)
theorem pinv_one {x d : PySem.Str} {i : Int} (h1 : 5 ≤ i) (h2 : i ≤ x.length) (h3 : d.length ≤ x.length) (h4 : PI x i d) (h5 : (d.length : Int) + 5 ≤ i) (hi : i < x.length) (hc : (PySem.Txt.item x i == PySem.Str.ofString "\"") = false) : PInv x (i + 1) (d ++ PySem.Txt.item x i) := by
  unfold PI at h4
  obtain ⟨c, e1, e2, e3⟩ := item_at x (Int.le_trans (by decide) h1) hi
  have hq : PySem.Str.ofString "\"" = tx [34] := by decide +kernel
  rw [e2, hq] at hc
  have hc : c ≠ 34 := fun e => by rw [e] at hc; simp at hc
  have hl : (d ++ PySem.Txt.item x i).length = d.length + 1 := by rw [e2, sg_len, sg_app, sg_tx, sg_len]; simp
  refine ⟨by omega, by omega, by rw [hl]; omega, ?_, by rw [hl]; omega⟩
  unfold PI
  rw [sg_app, ← h4, e2, sg_tx, e3, pq_plain hc, toNat_up (Int.le_trans (by decide) h1), sg_tx]
  simp
structure PS where
  i : Int
  d : PySem.Str
  ti : Tok
  td : Tok
abbrev PPs (c : PS) : List (PySem.Str × Value) := [(PySem.Str.ofString "i", .int c.i c.ti), (PySem.Str.ofString "dirname", .str c.d c.td)]
def PP (x : PySem.Str) (c : PS) (tk : Nat) : Prop := PInv x c.i c.d ∧ TokOK tk c.td
set_option maxHeartbeats 8000000 in
theorem parse_c {w : World} {x : PySem.Str} {t : Tok} (hx : x.length ≤ 100000) (h3 : (PySem.Txt.slice x none (some 3) != PySem.Str.ofString "257") = false)
    (h5 : (PySem.Txt.slice x (some 3) (some 5) != PySem.Str.ofString " \"") = false) (hl : 5 ≤ x.length) {news : List (Addr × Obj)} :
    Fn w 53 1 8 [Value.str x t] news (GivesT news fun t => Value.str (tx (pq ((sg x).drop 5))) t) := by
  intro mean mg mb dp un gd cn cs a ccd cl outer A₀ base h₀ La m s Q E B F X N T hk hd hu hret
  k_with_none
  w_top off
  k_with "PTOK" => ((refine ⟨?_, ?_⟩ <;> (try dsimp only) <;> first | with_reducible assumption | exact Nat.succ_ne_zero _ | ((first | refine Nat.lt_of_lt_of_le (by assumption) ?_ | refine Nat.lt_succ_of_le ?_); (repeat' (first | with_reducible exact Nat.le_refl _ | with_reducible refine Nat.le_succ_of_le ?_)); done) | omega))
  k_with "binaryOp Add str str" => ((k_here; (with_reducible show wpAny _ _ (binaryOp Operator.Add (Value.str _ _) (Value.str _ _)) _ _ _); k_dflt (refine' add_tok ?qa ?qb ?qc ?_; (case qa => walk_at "PTOK"); (case qb => walk_at "PTOK"); (case qc => (rw [PySem.sizeLine_eq, len_item]; first | exact Nat.le_trans (Nat.succ_le_succ (Nat.le_trans (by assumption) hx)) (by decide) | omega))); intro t9 k9 hk9 ht9; (try dsimp only at hk9); (try dsimp only); (try k_fold)))
  k_with "execs cons" => ((k_here; with_reducible refine execs_tok ?_))
  k_with "execs nil" => ((k_here; with_reducible refine wpAny_execs_nil ?_))
  k_with "LEI" => ((with_reducible refine toks_intro ?_; intro hT9; (try dsimp only at hT9); (try dsimp only)))
  k_with "TOWHILE" => ((repeat' (first | walk_at "LEI" | (k_unfold; (try dsimp only)) | ((fail_if_success (with_reducible show wpAny _ _ (exec (.While _ _ _ _) _) _ _ _)); walk1) | ((fail_if_success (with_reducible show wpAny _ _ (exec (.While _ _ _ _) _) _ _ _)); dsimp only; walk1))))
  have h0 : PInv x 5 (PySem.Str.ofString "") := ⟨Int.le_refl _, by omega, by rw [sg_len]; show 0 ≤ _; omega, rfl, Int.le_refl _⟩
  refine wpAny_call ?_
  k_dflt cell_enter
  (k_with "exec While Compare cons nil" => fail "stop")
  walk_at "TOWHILE"
  rename Fr _ _ _ _ => kF
  rename News _ _ _ _ => kN
  refine' tw_while (fun _ : PS => news) PPs (fun _ => True) [PySem.Str.ofString "c"] (PP x) (fun c => x.length - c.i.toNat) ⟨5, PySem.Str.ofString "", _, _⟩ kF kN True.intro ?ps ⟨h0, ?tok⟩ ?turn
  case ps =>
    refine List.forall_mem_cons.mpr ⟨?_, List.forall_mem_cons.mpr ⟨?_, List.forall_mem_nil _⟩⟩
    · dsimp only
      rfl
    · dsimp only
      rfl
  case tok =>
    rename s.toks + _ ≤ _ => hS
    have hS' : s.toks + 1 ≤ _ := hS
    clear hS
    walk_at "PTOK"
  case turn =>
    clear kF kN
    rintro ⟨i, d, ti, td⟩ u h tk - ⟨⟨p1, p2, p3, p4, p5⟩, q1, q2⟩ kF kN
    dsimp only [kstB] at kF p1 p2 p3 p4 p5 q1 q2
    walk_at "TOWHILE"
    all_goals (try dsimp only [TwPost])
    all_goals walk_at "TOWHILE"
    all_goals first
      | (refine' tw_end ⟨_, _, _, _⟩ (by k_asm) (by k_asm) (fun _ hp => hp) True.intro ?kk ?kr ⟨?kp, ?kt⟩ ?km
         case kk => (refine List.forall_mem_cons.mpr ⟨?_, List.forall_mem_cons.mpr ⟨?_, List.forall_mem_nil _⟩⟩ <;> ((try dsimp only); rfl))
         case kr => (intro y hy hc; simp only [List.forall_mem_cons, List.not_mem_nil, false_implies, implies_true, and_true, ne_eq] at hy; have hc2 := hc; simp only [List.contains_cons, List.contains_nil, Bool.or_false, beq_eq_false_iff_ne, ne_eq] at hc2; simp only [hy.1, hy.2, hc, hc2, if_false, Bool.false_eq_true])
         case kp => (dsimp only; first | exact pinv_one (by assumption) (by assumption) (by assumption) (by assumption) (by assumption) (by assumption) (by assumption) | exact pinv_two (by assumption) (by assumption) (by assumption) (by assumption) (by assumption) (by assumption) (by assumption) (by assumption) (by assumption))
         case kt => (rename TokOK _ _ => hT; exact TokOK.le hT (by (try dsimp only); (repeat' (first | with_reducible exact Nat.le_refl _ | with_reducible refine Nat.le_succ_of_le ?_)); done))
         case km => ((try dsimp only); first | exact less_one p1 (by assumption) | exact less_two p1 (by assumption)))
      | (refine gives_strT hret ?ht (by k_asm) (by k_asm) ?he
         case ht => walk_at "PTOK"
         case he => first
          | exact pinv_brk (by assumption) (by assumption) (by assumption) (by assumption) (by assumption) (by assumption) (by assumption) (.inl (by assumption))
          | exact pinv_brk (by assumption) (by assumption) (by assumption) (by assumption) (by assumption) (by assumption) (by assumption) (.inr ⟨by assumption, by assumption⟩)
          | exact pinv_end (by assumption) (by assumption) (by assumption) (by assumption) (by assumption) (by assumption))
end
section
set_option maxHeartbeats 8000000 in
theorem parse_no {w : World} {x : PySem.Str} {t : Tok} (hx : x.length ≤ 100000) (h3 : (PySem.Txt.slice x none (some 3) != PySem.Str.ofString "257") = false)
    (h5 : (PySem.Txt.slice x (some 3) (some 5) != PySem.Str.ofString " \"") = true) {news : List (Addr × Obj)} :
    Fn w 53 1 8 [Value.str x t] news (Gives news fun t => Value.str (PySem.Str.ofString "") t) := by
  intro mean mg mb dp un gd cn cs a ccd cl outer A₀ base h₀ La m s Q E B F X N T hk hd hu hret
  k_with_none
  w_top off
  refine wpAny_call ?_
  k_dflt cell_enter
  k_steps
  all_goals (refine gives_str hret (by k_asm) (by k_asm) rfl)
end
section
/-! str() of an exception of the text's own, made with one text -/
def strTail (K : Frag) : List Value → Bool
  | [] => false
  | v :: r => (v :: r) == [.type "Exception", .type "BaseException", .type "object"] || match v with
    | .ref A => (match K.lookup A with
      | some ⟨_, _, .cls cd, _⟩ => nsOkIn K cd.ns && nsIn K cd.ns "__str__" == some none && strTail K r
      | _ => false)
    | _ => false
def strIn (K : Frag) (C : Addr) : Bool := match K.lookup C with
  | some ⟨.type "type", _, .cls cd, sl⟩ => (match cd.mro, sl.toList with
    | .ref C' :: bm, [_, _, _, _, some (.builtin _), _] => C' == C && !cd.hasDel && bm.contains (.type "BaseException") && nsOkIn K cd.ns && nsIn K cd.ns "__str__" == some none && strTail K bm
    | _, _ => false)
  | _ => false
section
variable {M : Model} {A : Around} {E : Value → Shared → Prop} {h : Heap} {g : Array GenState} {d : Drawn} {t : Nat} {os : OsState} {K : Frag} {C e : Addr}
theorem str_along (X : K.In h) {Q : Option Value → Shared → Prop} (hq : Q (some (.builtin "BaseException.__str__")) ⟨h, g, d, t, os⟩) : ∀ {l : List Value}, strTail K l = true → wpAny M A (lookupAlong l "__str__") Q E ⟨h, g, d, t, os⟩
  | [], q => by cases q
  | v :: r, q => by
    unfold strTail at q
    rcases Bool.or_eq_true_iff.mp q with q | q
    · rw [beq_iff_eq.mp q]
      have hB := F.excStr_Exception.str.lookup
      rw [typeLookup_eq, PySem.F.excBase_Exception.mroIs] at hB
      have hB' : lookupAlong [.type "Exception", .type "BaseException", .type "object"] "__str__" = pure (some (.builtin "BaseException.__str__")) := hB
      rw [hB']; exact wpAny_pure hq
    · split at q
      · split at q
        · rename_i ho
          simp only [Bool.and_eq_true, beq_iff_eq] at q
          rw [lookupAlong_cons]
          refine wpAny_bind (wpAny_classOwn_cls (X _ _ ho) (.of_isNs (isNs_of_in X q.1.1)) ?_)
          rw [nsMap_none_of_in X q.1.1 q.1.2]
          exact str_along X hq q.2
        · cases q
      · cases q
/-- what is known of such an exception -/
def StrExc (h : Heap) (e C : Addr) (m : PySem.Str) (tk : Tok) : Prop :=
  ∃ (o : Obj) (vs : Array Value) (t0 N : Addr) (nm q : PySem.Str) (bs bm : List Value) (hdct : Bool) (sn : List PySem.Str) (sub : List Value) (ab : Bool) (col : Option Bool) (dd : Option Addr) (k0 k1 k2 k3 k5 : Option Value) (newId : String) (mN : PySem.Str → Option Value) (K : Frag),
    h.get? e = some o ∧ o.cls = .ref C ∧ o.data = .fields vs ∧ vs[0]? = some (.ref t0) ∧ h.TupAt t0 [.str m tk] ∧ h.get? C = some (excClassObj nm q C N bs bm hdct sn sub ab col dd k0 k1 k2 k3 k5 newId) ∧ bm.contains (.type "BaseException") = true ∧
    h.Ns N mN ∧ mN "__str__" = none ∧ K.In h ∧ strTail K bm = true
theorem strExc_of (X : K.In h) (q : strIn K C = true) {o : Obj} {vs : Array Value} {t0 : Addr} {m : PySem.Str} {tk : Tok} (hx : h.get? e = some o) (hc : o.cls = .ref C) (hd : o.data = .fields vs) (h0 : vs[0]? = some (.ref t0)) (ht : h.TupAt t0 [.str m tk]) : StrExc h e C m tk := by
  unfold strIn at q
  split at q
  · rename_i dd cd sl ho
    split at q
    · rename_i C' bm k0 k1 k2 k3 n k5 hm hs
      simp only [Bool.and_eq_true, beq_iff_eq, Bool.not_eq_true'] at q
      obtain ⟨⟨⟨⟨⟨rfl, hdel⟩, hb⟩, hok⟩, hni⟩, ht'⟩ := q
      obtain ⟨nm, bs, mro, ns, qn, hdc, sn, sub, ab, col, del⟩ := cd
      dsimp only at hm hdel hok hni
      subst hm hdel
      have hsl : sl = #[k0, k1, k2, k3, some (.builtin n), k5] := by
        obtain ⟨l⟩ := sl
        simp only at hs
        rw [hs]
      subst hsl
      exact ⟨o, vs, t0, ns, nm, qn, bs, bm, hdc, sn, sub, ab, col, dd, k0, k1, k2, k3, k5, n, _, K, hx, hc, hd, h0, ht, X _ _ ho, hb, .of_isNs (isNs_of_in X hok), nsMap_none_of_in X hok hni, X, ht'⟩
    · cases q
  · cases q
theorem str_lookup {m : PySem.Str} {tk : Tok} (x : StrExc h e C m tk) {Q : Option Value → Shared → Prop} (hq : Q (some (.builtin "BaseException.__str__")) ⟨h, g, d, t, os⟩) : wpAny M A (typeLookup (.ref C) "__str__") Q E ⟨h, g, d, t, os⟩ := by
  obtain ⟨o, vs, t0, N, nm, q, bs, bm, hdct, sn, sub, ab, col, dd, k0, k1, k2, k3, k5, newId, mN, K, hx, hc, hd, h0, ht, hC, hb, hN, hn, X, hT⟩ := x
  rw [typeLookup_eq]
  refine wpAny_bind (wpAny_mroOf_exc hC ?_)
  rw [lookupAlong_cons]
  refine wpAny_bind (wpAny_classOwn_exc hC hN ?_)
  rw [hn]
  exact str_along X hq hT
theorem str_special {m : PySem.Str} {tk : Tok} (x : StrExc h e C m tk) {Q : Option Value → Shared → Prop} (hq : Q (some (.builtin "BaseException.__str__")) ⟨h, g, d, t, os⟩) : wpAny M A (specialOf (.ref e) "__str__") Q E ⟨h, g, d, t, os⟩ := by
  have x' := x
  obtain ⟨o, vs, t0, N, nm, q, bs, bm, hdct, sn, sub, ab, col, dd, k0, k1, k2, k3, k5, newId, mN, K, hx, hc, _⟩ := x'
  unfold specialOf
  repeat (first | (with_reducible refine wpAny_loadPart_at hx ?_; rw [hc]) | (with_reducible refine str_lookup x ?_) | wp_step)
  exact hq
theorem str_check {m : PySem.Str} {tk : Tok} (x : StrExc h e C m tk) {Q : Unit → Shared → Prop} (hq : Q () ⟨h, g, d, t, os⟩) : wpAny M A (checkBuiltinCall "BaseException.__str__" ⟨[.ref e], []⟩) Q E ⟨h, g, d, t, os⟩ := by
  obtain ⟨o, vs, t0, N, nm, q, bs, bm, hdct, sn, sub, ab, col, dd, k0, k1, k2, k3, k5, newId, mN, K, hx, hc, hd, h0, ht, hC, hb, hN, hn, X, hT⟩ := x
  have hk : builtinKind "BaseException.__str__" = some .slot := by decide +kernel
  have hsplit : splitId "BaseException.__str__" = some ("BaseException", "__str__") := by decide +kernel
  have hcB : (Value.ref C :: bm).contains (.type "BaseException") = true := by rw [List.contains_cons, hb, Bool.or_true]
  have ha := F.args_bexc_str (.ref e)
  simp only [checkBuiltinCall, hk, hsplit]
  refine wpAny_bind ?_
  · unfold isInstance
    repeat (first | (with_reducible refine wpAny_loadPart_at hx ?_; rw [hc]) | (with_reducible refine wpAny_isSubtype_exc hC ?_; rw [hcB]) | wp_step)
    exact hq
end
section
variable {prog : Program} {w : World} {A : Around} {E : Value → Shared → Prop} {s : Shared} {C e : Addr} {m : PySem.Str} {tk : Tok}
theorem str_entry (x : StrExc s.heap e C m tk) {Q : Fin → Shared → Prop} (hq : Q (.done (.ret (.str m tk))) s) : wpAny (model prog w) A (Builtin.«BaseException.__str__» ⟨[.ref e], []⟩) Q E s := by
  obtain ⟨o, vs, t0, N, nm, q, bs, bm, hdct, sn, sub, ab, col, dd, k0, k1, k2, k3, k5, newId, mN, K, hx, hc, hd, h0, ht, hC, hb, hN, hn, X, hT⟩ := x
  have hargs : ∀ {Q' : Value × List Value → Shared → Prop}, Q' (.ref t0, [.str m tk]) s → wpAny (model prog w) A (Builtin.BaseException.bexcArgs (.ref e)) Q' E s := fun {Q'} hq => by
    obtain ⟨ot, k, hto, _, htd⟩ := ht
    unfold Builtin.BaseException.bexcArgs
    refine wpAny_bind (wpAny_field hx hd h0 (wpAny_bind (wpAny_seqItems hto htd ?_)))
    exact wpAny_pure hq
  unfold Builtin.«BaseException.__str__»
  repeat (first | with_reducible refine hargs ?_ | wp_step)
  exact hq
theorem str_slot (x : StrExc s.heap e C m tk) {Q : Value → Shared → Prop} (hq : Q (.str m tk) s) : wpAny (model prog w) A (call (.builtin "BaseException.__str__") [.ref e]) Q E s := by
  refine wpAny_call (codeAny_call_builtin F.excStr_Exception.str.plain F.entry_bexc_str ?_)
  obtain ⟨h, g, d, t, os⟩ := s
  exact str_check x (str_entry (s := ⟨h, g, d, t, os⟩) x hq)
theorem str_callSpecial (x : StrExc s.heap e C m tk) {Q : Option Value → Shared → Prop} (hq : Q (some (.str m tk)) s) : wpAny (model prog w) A (callSpecial? (.ref e) "__str__") Q E s := by
  obtain ⟨h, g, d, t, os⟩ := s
  simp only [callSpecial?]
  refine wpAny_bind (str_special x ?_)
  simp only [F.excStr_Exception.str.bind]
  exact wpAny_holding (wpAny_bind (wpAny_pure (wpAny_bind (wpAny_mono (str_slot (s := ⟨h, g, d, t, os⟩) x (Q := fun v s' => v = .str m tk ∧ s' = ⟨h, g, d, t, os⟩) ⟨rfl, rfl⟩) (fun v s' h' => by obtain ⟨rfl, rfl⟩ := h'; exact wpAny_pure hq) fun _ _ h' => h'))))
theorem strOf_own (hu : A.units < cLine) (x : StrExc s.heap e C m tk) {Q : Value → Shared → Prop} (hq : Q (.str m tk) s) : wpAny (model prog w) A (Builtin.Str.strOf (.ref e)) Q E s := by
  unfold Builtin.Str.strOf
  repeat (first | with_reducible refine wpAny_cRoomFor hu ?_ | with_reducible refine str_callSpecial x ?_ | wp_step)
  exact hq
theorem str_of_own (hu : A.units + 2 < cLine) (x : StrExc s.heap e C m tk) {Q : Value → Shared → Prop} (hq : Q (.str m tk) s) : wpAny (model prog w) A (call (.type "str") [.ref e]) Q E s :=
  callType_new F.called_str (by decide) (F.typeCall_str_1 _) (F.newCall_str_1 _) (fun obj => F.args_object_init_2 obj _) F.entry_str_new
    (meets_str_new (S := fun A' R s' => A'.units + 1 < cLine ∧ StrExc s'.heap e C m tk ∧ R (.ok (.ret (.str m tk))) s')
      fun _ _ A' _ _ hq => strOf_own (A := A'.in1) hq.1 hq.2.1 hq.2.2)
    ⟨(show A.units + 1 + 1 < cLine from hu), x, typeIs_str _ _ _, hq⟩
end
theorem strExc_got {K : Frag} {g h : Heap} {L e t C : Addr} {n₂ : List (Addr × Obj)} {m : PySem.Str} {tk : Tok} (G : Got n₂ e t (.ref C) [.str m tk]) (N : News g L h n₂) (X : K.In h) (q : strIn K C = true) : StrExc h e C m tk := by
  obtain ⟨oe, ot, ws, nt, h1, h2, hc, hd, h0, htc, htd⟩ := G
  exact strExc_of X q (N _ h1).1 hc hd h0 ⟨ot, nt, (N _ h2).1, htc, htd⟩
end
section
section
variable {prog : Program} {w : World} {A₀ A : Around} {s : Shared} {base h₀ : Heap} {L : Addr} {m : PySem.Str → Option Value} {env : Env} {news : List (Addr × Obj)} {K : Frag} {p : Program} {loose : List PySem.Str} {mean : ExcName → Option Value} {mg mb : PySem.Str → Option Value}
  {R : Result → Shared → Prop} {name qual : PySem.Str} {params : Arguments} {body : List Stmt} {scope : Scope} {dV kV doc pm cdv ct oc : Value} {an od : Option Addr} {osl : Array (Option Value)} {f : Addr} {args : Args} {binds : List (PySem.Str × Value)}
/-- a def with a try within, called from the lowest frame, whatever cells that has -/
theorem try_enter (B : Below A₀ base [] h₀) (F : Fr h₀ L s.heap m) (X₀ : K.In h₀) (N : News h₀ L s.heap news) (T : Top p loose mean mg mb h₀) (hA : A.frames = some [env]) (hf : env.frame = some L) (hke : env.scope.kind = .function)
    (ho : K.lookup f = some ⟨oc, od, .func (fnOf name qual params body scope dV kV doc pm an cdv ct), osl⟩) (hcd : codeIn K cdv qual = true) (hroom : A.depth < recursionLimit)
    (hbind : BindsTo s (fnOf name qual params body scope dV kV doc pm an cdv ct) args binds) (hloc : ∀ y ∈ binds, scope.names.lookup y.1 = some .local)
    (h : ∀ g L' h₁, Fr h₀ L g m → Fr g L' h₁ (fun y => binds.reverse.lookup y) → News g L' h₁ news → Below A base [env] g → K.In g → Top p loose mean mg mb g → KtsDicts ([env].filterMap (·.frame)) g →
      wpAny (model prog w) (A.deeper (envOf qual scope L' f cdv)) (execs body (envOf qual scope L' f cdv))
        (fun fl s' => LeaveS0 ([env].filterMap (·.frame)) h₀ L m g R (match fl with | .ret v => v | _ => .none) s')
        (fun e s' => wpAny (model prog w) (A.deeper (envOf qual scope L' f cdv)) (leaving (envOf qual scope L' f cdv) e) (fun _ s'' => R (.error e) s'') (fun e' s'' => R (.error e') s'') s')
        { s with heap := h₁, toks := s.toks + binds.length })
    (hco : scope.isCoroutine = false) (hgen : scope.isGenerator = false) (hk : scope.kind = .function)
    (hcell : ∀ x ∈ scope.names, x.2 ≠ .cell) : codeAny (model prog w) A (.call (.ref f) args) R s := by
  have X := X₀.keeps F.keep
  have hfs : [env].filterMap (·.frame) = [L] := by simp [hf]
  have nL₀ : h₀.get? L = none := kts_self F
  obtain ⟨FG, BG, st, _⟩ := groundX (R := R) B F N hA hf hke
  refine codeAny_call_def (fd := fnOf name qual params body scope dV kV doc pm an cdv ct) (body := body) (binds := binds) hroom (X _ _ ho) rfl (T.nolimit.keeps F.keep) (codeRec_of X hcd) rfl hbind hcell hloc (fun h₁ hns hk₁ => ?_) hco hgen hk
  obtain ⟨oL, es, ep, hL, hLd, hLk, hLf⟩ := FG.ns
  refine wpAny_mono (h _ s.heap.objs.size h₁ FG ⟨hns, fun b o e => hk₁ b o (of_hideAll _ e), Nat.le_of_eq (hideAll_size _ _)⟩
    (fun q hq => ⟨hk₁ _ _ (N q hq).1, Nat.ne_of_lt (Heap.lt_size (N q hq).1), hideAll_none _ (List.mem_map_of_mem hq)⟩) BG (X₀.keeps st) (T.keeps st) (fun b hb => by
      rw [hfs] at hb
      rw [List.mem_singleton.mp hb]
      exact ⟨oL, es, ep, hL, hLd⟩)) (fun fl s' hl => ?_) fun _ _ y => y
  rw [hfs] at hl
  obtain ⟨g', L', m', news', T', F', N', k⟩ := hl
  obtain ⟨sl, hs⟩ := T'.up hL
  refine k ⟨⟨_, es, ep, F'.keep _ _ hs, hLd, hLk, hLf⟩, fun b o e => F'.keep b o (T'.other b o (st b o e) fun q => ?_), FG.above⟩ fun q hq => ⟨(N' q hq).1, fun z => ?_, ?_⟩
  · rw [List.mem_singleton.mp q, nL₀] at e; cases e
  · have := (N' q hq).2.2; rw [z, hs] at this; cases this
  · cases z : h₀.get? q.1 with
    | none => rfl
    | some o =>
      obtain ⟨sl', hs'⟩ := T'.up (st _ _ z)
      have := (N' q hq).2.2
      rw [hs'] at this; cases this
end
/-- a call from the lowest frame -/
abbrev FnB (w : World) (f : Addr) (dk uk : Nat) (vs : List Value) (news : List (Addr × Obj)) (Post : Heap → Addr → (PySem.Str → Option Value) → Shared → (Value → Shared → Prop) → (Value → Shared → Prop) → Prop) : Prop :=
  ∀ {mean : ExcName → Option Value} {mg mb : PySem.Str → Option Value} {dp un : Nat} {gd : Option (List Code)} {cn : PySem.Str} {cs : Scope} {a : Addr} {ccd : Value} {cl : List (PySem.Str × Addr)} {A₀ : Around} {base h₀ : Heap} {La : Addr} {m : PySem.Str → Option Value} {s : Shared} {Q E : Value → Shared → Prop},
    Below A₀ base [] h₀ → (hd.heap_39 w.params).In base → Top hd.view_39 (looseW hd.view_39 [PySem.Str.ofString "Whitespace", PySem.Str.ofString "EXACT_TOKEN_TYPES"]) mean mg mb base → Fr h₀ La s.heap m → (hd.heap_39 w.params).In h₀ → News h₀ La s.heap news → Top hd.view_39 (looseW hd.view_39 [PySem.Str.ofString "Whitespace", PySem.Str.ofString "EXACT_TOKEN_TYPES"]) mean mg mb h₀ → cs.kind = .function → dp + dk < recursionLimit → un + uk < cLine → Post h₀ La m s Q E →
    wpAny (model PR w) (ktrTop dp un gd cn cs La a ccd cl []) (call (.ref f) vs) Q E s
theorem strIn_44 (w : World) : strIn (hd.heap_39 w.params) 44 = true := by kernel_rfl
theorem eq_self (x : PySem.Str) : (x == x) = true := by simp
local macro_rules | `(tactic| walk_at "call type:str") => `(tactic| (k_here; (with_reducible show wpAny _ _ (call (Value.type "str") [Value.ref _]) _ _ _); (rename Got _ _ _ _ _ => gX9); k_dflt (refine' str_of_own ?u (strExc_got gX9 ?N (K := hd.heap_39 _) ?X (strIn_44 _)) ?_; (case N => k_asm); (case X => exact Frag.In.keeps (by k_asm) (Fr.keep (by k_asm))); (case u => ktr_units))))
set_option maxHeartbeats 8000000 in
theorem refused_c {w : World} {x : PySem.Str} {t : Tok} (hx : x.length ≤ 100000) (h3 : (PySem.Txt.slice x none (some 3) != PySem.Str.ofString "257") = true) {news : List (Addr × Obj)} :
    FnB w 223 3 40 [Value.str x t] news (Gives news fun _ => Value.bool true) := by
  intro mean mg mb dp un gd cn cs a ccd cl A₀ base h₀ La m s Q E B XB TB F X N T hk hd hu hret
  k_with_none
  w_top off
  k_with "k_room" => (ktr_room)
  refine wpAny_call ?_
  k_dflt (refine' try_enter ?k1 ?k2 ?k3 ?k4 ?k5 ?kA ?kF ?kK ?k6 ?k7 ?k8 ?k9 ?kB ?_ ?c2 ?c3 ?c4 ?c5; (case kA => exact rfl); (case kF => exact rfl); (case kK => assumption); (case k1 => k_asm); (case k2 => k_asm); (case k3 => k_asm); (case k4 => k_asm); (case k5 => k_asm); (case k6 => k_is); (case k7 => k_is); (case k8 => ktr_room); (case k9 => exact BindsTo.of_eq rfl); (case c5 => decide); (case kB => exact locs rfl); (case c2 => exact rfl); (case c3 => exact rfl); (case c4 => exact rfl); k_whole)
  intro g' L' h' FG' F' N' B' X' T' D'
  (try dsimp only)
  (try k_lift B')
  (try k_fold)
  k_steps
  all_goals (refine gives_bool hret (by k_asm) (by first | k_asm | exact drop_own (by k_asm)) ?_; exact eq_self _)
end
section
theorem gives_int {h₀ : Heap} {La : Addr} {m : PySem.Str → Option Value} {news : List (Addr × Obj)} {s : Shared} {Q : Value → Shared → Prop} {x y : Int} {t : Tok} {h' : Heap} {tk' : Nat}
    (hret : ∀ (t : Tok) (h' : Heap) (tk' : Nat), Fr h₀ La h' m → News h₀ La h' news → Q (.int x t) { s with heap := h', toks := tk' }) (F : Fr h₀ La h' m) (N : News h₀ La h' news) (e : y = x) : Q (.int y t) { s with heap := h', toks := tk' } := by
  subst e; exact hret t h' tk' F N
/-- the dict of a Whitespace -/
abbrev wsd (w : World) (t1 t2 t3 t4 t5 : Tok) (raw n nt norm simple : Value) : Obj := dictOf [⟨PyData.keyHash w.params (PySem.Str.ofString "raw"), .str (PySem.Str.ofString "raw") t1, raw⟩, ⟨PyData.keyHash w.params (PySem.Str.ofString "n"), .str (PySem.Str.ofString "n") t2, n⟩, ⟨PyData.keyHash w.params (PySem.Str.ofString "nt"), .str (PySem.Str.ofString "nt") t3, nt⟩, ⟨PyData.keyHash w.params (PySem.Str.ofString "norm"), .str (PySem.Str.ofString "norm") t4, norm⟩, ⟨PyData.keyHash w.params (PySem.Str.ofString "is_simple"), .str (PySem.Str.ofString "is_simple") t5, simple⟩] 5
abbrev tupO (its : List Value) (n : Nat) : Obj := { cls := .type "tuple", data := .seq its.toArray n }
section
variable {prog : Program} {w : World} {A : Around} {E : Value → Shared → Prop} {s : Shared} {h₀ : Heap} {La l : Addr} {news : List (Addr × Obj)} {vs : List Value} {cs : List Int} {n : Nat} {Q : Value → Shared → Prop}
theorem len_tupI (N : News h₀ La s.heap news) (hb : (l, tupO vs n) ∈ news) (hi : IntsAre vs cs) (hz : cs.length ≤ 16384) (h : Q (.int cs.length (s.toks + 1)) { s with toks := s.toks + 1 + 1 }) :
    wpAny (model prog w) A (call (.builtin "len") [.ref l]) Q E s :=
  kun_lenT (k := (cs.length : Int)) (N.isTup hb) (by rw [List.size_toArray, hi.length]) (by omega) h
theorem item_tupI {value slice : Expr} {k : Int} {u : Tok} (N : News h₀ La s.heap news) (hb : (l, tupO vs n) ∈ news) (hi : IntsAre vs cs) (h0 : 0 ≤ k) (h1 : k < cs.length) (hz : cs.length ≤ 16384) (h : ∀ t, Q (.int (cs.getD k.toNat 0) t) s)
    (hs : subscripted slice false (.ref l) (.int k u) = operate [.ref l, .int k u] (getItem (.ref l) (.int k u)) := by with_unfolding_all rfl) :
    wpAny (model prog w) A (subscriptTail value slice (.ref l) (.int k u)) Q E s := by
  have hlt : k.toNat < vs.length := by rw [hi.length]; omega
  obtain ⟨t, ht⟩ := hi.int_at k.toNat vs[k.toNat] (List.getElem?_eq_getElem hlt)
  exact item_tupleT (N.isTup hb) (by omega) (by omega) (PySem.StrLaws.seqIndex_nonneg h0 (by rw [hi.length]; exact h1)) (by rw [List.getElem?_eq_getElem hlt, ht]) (h t) hs
end
set_option maxHeartbeats 8000000 in
theorem longest_c {w : World} {news : List (Addr × Obj)} {x d tn tc : Addr} {t1 t2 t3 t4 t5 tb tnt tnn : Tok} {raw : Value} {n nt b : Int} {simple : Bool} {vs : List Value} {cs : List Int} {k1 k2 : Nat}
    (hx : (x, instObj 150 d) ∈ news) (hdd : (d, wsd w t1 t2 t3 t4 t5 raw (.int n tnn) (.int nt tnt) (.ref tn) (.bool simple)) ∈ news)
    (hn : (tn, tupO [.ref tc, .int b tb] k1) ∈ news) (hc : (tc, tupO vs k2) ∈ news) (hi : IntsAre vs cs) (hl : cs.length ≤ 1000) :
    Fn w 112 1 8 [.ref x] news (Gives news fun t => Value.int (max ((cs.length : Int) - 1) b) t) := by
  intro mean mg mb dp un gd cn cs' a ccd cl outer A₀ base h₀ La m s Q E B F X N T hk hd hu hret
  k_with_none
  w_top off
  k_with "k_enter" => ((refine' code_def ?k1 ?k2 ?k3 ?k4 ?k5 ?kA ?kF ?kK ?k6 ?k7 ?k8 ?k9 ?kB ?_ ?c2 ?c3 ?c4 ?c5; (case kA => exact rfl); (case kF => exact rfl); (case kK => first | exact rfl | assumption); (case k1 => k_asm); (case k2 => k_asm); (case k3 => k_asm); (case k4 => k_asm); (case k5 => k_asm); (case k6 => k_is); (case k7 => k_is); (case k8 => ktr_room); (case k9 => exact BindsTo.of_eq rfl); (case c5 => decide); (case kB => exact locs rfl); (case c2 => exact rfl); (case c3 => exact rfl); (case c4 => exact rfl); k_whole))
  k_with "call builtin:len" => ((k_here; (with_reducible show wpAny _ _ (call (Value.builtin "len") [Value.ref _]) _ _ _); (refine len_tupI (by k_asm) (by k_mem) (by assumption) (by omega) ?_)))
  refine wpAny_call ?_
  k_dflt cell_enter
  k_steps
  all_goals (refine gives_int hret (by k_asm) (by k_asm) ?_; split <;> omega)
theorem fdiv_bits {i ts : Int} (h0 : 0 ≤ i) (h1 : i < 1000000) (h2 : 2 ≤ ts) : Builtin.Int.intBits (Int.fdiv i ts) ≤ 64 := by
  have e : Int.fdiv i ts = i / ts := Int.fdiv_eq_ediv_of_nonneg _ (by omega)
  have a : 0 ≤ i / ts := Int.ediv_nonneg h0 (by omega)
  have b : i / ts ≤ i := Int.ediv_le_self _ h0
  rw [e]; exact PySem.intBits_le_64 (by omega) (by omega)
def ilSum (ts : Int) (cs : List Int) (pre : List Int) : Int := (pre.map fun i => Int.fdiv i ts * cs.getD i.toNat 0).sum
/-- how far it is indented where a tab is ts wide -/
def ilv (ts b nt : Int) (cs : List Int) : Int := b + ts * (ilSum ts cs (rangeKs ts ((cs.length : Int) - ts).toNat) + nt)
def ILP (ts : Int) (cs : List Int) (pre : List Int) (il : Int) : Prop := il = ilSum ts cs pre
theorem ilv_of {ts b nt il : Int} {cs : List Int} (h : ILP ts cs (rangeKs ts ((cs.length : Int) - ts).toNat) il) : b + ts * (il + nt) = ilv ts b nt cs := by unfold ILP at h; rw [h]; rfl
theorem ilp_nil (ts : Int) (cs : List Int) : ILP ts cs [] 0 := rfl
theorem ilp_snoc {ts : Int} {cs pre : List Int} {il i : Int} (h : ILP ts cs pre il) : ILP ts cs (pre ++ [i]) (il + Int.fdiv i ts * cs.getD i.toNat 0) := by
  unfold ILP ilSum at *; rw [h]; simp
set_option maxHeartbeats 8000000 in
theorem indent_c {w : World} {news : List (Addr × Obj)} {x d tn tc : Addr} {t1 t2 t3 t4 t5 tb tnt tnn u : Tok} {raw : Value} {n nt b ts : Int} {simple : Bool} {vs : List Value} {cs : List Int} {k1 k2 : Nat}
    (hx : (x, instObj 150 d) ∈ news) (hdd : (d, wsd w t1 t2 t3 t4 t5 raw (.int n tnn) (.int nt tnt) (.ref tn) (.bool simple)) ∈ news)
    (hn : (tn, tupO [.ref tc, .int b tb] k1) ∈ news) (hc : (tc, tupO vs k2) ∈ news) (hi : IntsAre vs cs) (hl : cs.length ≤ 1000) (h2 : 2 ≤ ts) (h3 : ts ≤ 10000) :
    Fn w 119 1 8 [.ref x, .int ts u] news (Gives news fun t => Value.int (ilv ts b nt cs) t) := by
  intro mean mg mb dp un gd cn cs' a ccd cl outer A₀ base h₀ La m s Q E B F X N T hk hd hu hret
  k_with_none
  w_top off
  k_with "k_enter" => ((refine' code_def ?k1 ?k2 ?k3 ?k4 ?k5 ?kA ?kF ?kK ?k6 ?k7 ?k8 ?k9 ?kB ?_ ?c2 ?c3 ?c4 ?c5; (case kA => exact rfl); (case kF => exact rfl); (case kK => first | exact rfl | assumption); (case k1 => k_asm); (case k2 => k_asm); (case k3 => k_asm); (case k4 => k_asm); (case k5 => k_asm); (case k6 => k_is); (case k7 => k_is); (case k8 => ktr_room); (case k9 => exact BindsTo.of_eq rfl); (case c5 => decide); (case kB => exact locs rfl); (case c2 => exact rfl); (case c3 => exact rfl); (case c4 => exact rfl); k_whole))
  k_with "call builtin:len" => ((k_here; (with_reducible show wpAny _ _ (call (Value.builtin "len") [Value.ref _]) _ _ _); (refine len_tupI (by k_asm) (by k_mem) (by assumption) (by omega) ?_)))
  k_with "subscriptTail" => ((k_here; (with_reducible show wpAny _ _ (subscriptTail _ _ (Value.ref _) (Value.int _ _)) _ _ _); (refine item_tupI (by k_asm) (by k_mem) (by assumption) (by omega) (by omega) (by omega) ?_); intro _))
  k_with "binaryOp Mult int int" => ((k_here; (with_reducible show wpAny _ _ (binaryOp _ (Value.int (Int.fdiv _ _) _) (Value.int _ _)) _ _ _); refine mul_int ?_ (PySem.IntMulOk.of_left (fdiv_bits (by omega) (by omega) (by omega)))))
  refine wpAny_call ?_
  k_dflt cell_enter
  (k_with "state" => first | exact ilp_nil _ _ | exact ilp_snoc (by assumption))
  (k_with "pyIter ref" => k_state (fun (pre : List Int) (il : Int) => ILP ts cs pre il) "il")
  k_steps
  all_goals (refine gives_int hret (by k_asm) (by k_asm) ?_; exact ilv_of (by assumption))
end
section
section
variable {prog : Program} {w : World} {A : Around} {E : Value → Shared → Prop} {s : Shared} {h₀ : Heap} {La l : Addr} {news : List (Addr × Obj)} {m : PySem.Str → Option Value} {Q : Value → Shared → Prop}
theorem max_letter {a b : Int} {t u : Tok} (hh : A.handled = none) (F : Fr h₀ La s.heap m) (N : News h₀ La s.heap news)
    (h : ∀ (k : Int) (t : Tok) h' tk, k = max a b → Fr h₀ La h' m → News h₀ La h' news → Q (.int k t) { s with heap := h', toks := tk }) : wpAny (model prog w) A (call (.builtin "max") [.int a t, .int b u]) Q E s :=
  max_two_N hh F N fun h' tk F' N' => h _ _ h' tk (by split <;> omega) F' N'
end
/-- the part of two Whitespaces that less asks -/
def lessB (n1 nt1 b1 : Int) (s1 : Bool) (c1 : List Int) (n2 nt2 b2 : Int) (s2 : Bool) (c2 : List Int) : Bool :=
  if n1 ≥ n2 then false else if s1 && s2 then decide (nt1 ≤ nt2) else
    (rangeKs 2 (max (max ((c1.length : Int) - 1) b1) (max ((c2.length : Int) - 1) b2) + 1 + 1 - 2).toNat).all fun ts => !decide (ilv ts b1 nt1 c1 ≥ ilv ts b2 nt2 c2)
def LSP (b nt : Int) (cs : List Int) (b' nt' : Int) (cs' : List Int) (pre : List Int) : Prop := (pre.all fun ts => !decide (ilv ts b nt cs ≥ ilv ts b' nt' cs')) = true
section
variable {n nt b n' nt' b' : Int} {simple simple' : Bool} {cs cs' : List Int}
theorem lsp_nil : LSP b nt cs b' nt' cs' [] := rfl
theorem lsp_snoc {pre : List Int} {k : Int} (h : LSP b nt cs b' nt' cs' pre) (hn : ¬ ilv k b' nt' cs' ≤ ilv k b nt cs) : LSP b nt cs b' nt' cs' (pre ++ [k]) := by
  unfold LSP at *; rw [List.all_append, h]; simp; omega
theorem less_e1 (h : n' ≤ n) : false = lessB n nt b simple cs n' nt' b' simple' cs' := by unfold lessB; rw [if_pos h]
theorem less_e2 (h : ¬ n' ≤ n) (h1 : simple = true) (h2 : simple' = true) : decide (nt ≤ nt') = lessB n nt b simple cs n' nt' b' simple' cs' := by unfold lessB; rw [if_neg h, h1, h2]; exact (if_pos rfl).symm
/-- the greater of two, not seen by omega -/
def MaxIs (k a b : Int) : Prop := k = max a b
theorem MaxIs.mk {k a b : Int} (h : k = max a b) : MaxIs k a b := h
theorem len_le {n : Nat} (h : n ≤ 1000) : (n : Int) - 1 ≤ 1000 := Int.le_trans (Int.sub_le_self _ (by decide)) (Int.ofNat_le.2 h)
theorem max_bd {k9 : Int} (hk : k9 = max (max ((cs.length : Int) - 1) b) (max ((cs'.length : Int) - 1) b')) (hl : cs.length ≤ 1000) (hb : 0 ≤ b ∧ b ≤ 1000) (hl' : cs'.length ≤ 1000) (hb' : 0 ≤ b' ∧ b' ≤ 1000) : 0 ≤ k9 ∧ k9 ≤ 1000 :=
  hk ▸ ⟨Int.le_trans hb.1 (Int.le_trans (Int.le_max_right _ _) (Int.le_max_left _ _)), Int.max_le.2 ⟨Int.max_le.2 ⟨len_le hl, hb.2⟩, Int.max_le.2 ⟨len_le hl', hb'.2⟩⟩⟩
theorem less_all (h : ¬ n' ≤ n) (hs : (simple && simple') = false) {k9 : Int} (hk : k9 = max (max ((cs.length : Int) - 1) b) (max ((cs'.length : Int) - 1) b')) :
    lessB n nt b simple cs n' nt' b' simple' cs' = (rangeKs 2 (k9 + 1 + 1 - 2).toNat).all fun ts => !decide (ilv ts b nt cs ≥ ilv ts b' nt' cs') := by
  unfold lessB; rw [if_neg h, hs, if_neg Bool.false_ne_true, hk]
theorem less_e3 (h : ¬ n' ≤ n) (hs : (simple && simple') = false) {k9 k : Int} (hk : MaxIs k9 (max ((cs.length : Int) - 1) b) (max ((cs'.length : Int) - 1) b')) {pre : List Int}
    (e : k = 2 + (pre.length : Int)) (l : pre.length < (k9 + 1 + 1 - 2).toNat) (a : ilv k b' nt' cs' ≤ ilv k b nt cs) : false = lessB n nt b simple cs n' nt' b' simple' cs' := by
  rw [less_all h hs hk]
  symm
  rw [List.all_eq_false]
  refine ⟨k, ?_, by simp; exact a⟩
  subst e
  exact List.mem_map.mpr ⟨pre.length, List.mem_range.mpr l, rfl⟩
theorem less_e4 (h : ¬ n' ≤ n) (hs : (simple && simple') = false) {k9 : Int} (hk : MaxIs k9 (max ((cs.length : Int) - 1) b) (max ((cs'.length : Int) - 1) b')) (hL : LSP b nt cs b' nt' cs' (rangeKs 2 (k9 + 1 + 1 - 2).toNat)) :
    true = lessB n nt b simple cs n' nt' b' simple' cs' := by rw [less_all h hs hk]; exact hL.symm
end
theorem and_f1 {a b : Bool} (h : a = false) : (a && b) = false := by rw [h]; rfl
theorem and_f2 {a b : Bool} (h : b = false) : (a && b) = false := by rw [h, Bool.and_false]
set_option maxHeartbeats 8000000 in
theorem less_c {w : World} {news : List (Addr × Obj)} {x d tn tc : Addr} {t1 t2 t3 t4 t5 tb tnt tnn : Tok} {raw : Value} {n nt b : Int} {simple : Bool} {vs : List Value} {cs : List Int} {k1 k2 : Nat}
    {x' d' tn' tc' : Addr} {t1' t2' t3' t4' t5' tb' tnt' tnn' : Tok} {raw' : Value} {n' nt' b' : Int} {simple' : Bool} {vs' : List Value} {cs' : List Int} {k1' k2' : Nat}
    (hx : (x, instObj 150 d) ∈ news) (hdd : (d, wsd w t1 t2 t3 t4 t5 raw (.int n tnn) (.int nt tnt) (.ref tn) (.bool simple)) ∈ news)
    (hn : (tn, tupO [.ref tc, .int b tb] k1) ∈ news) (hc : (tc, tupO vs k2) ∈ news) (hi : IntsAre vs cs) (hl : cs.length ≤ 1000) (hb : 0 ≤ b ∧ b ≤ 1000)
    (hx' : (x', instObj 150 d') ∈ news) (hdd' : (d', wsd w t1' t2' t3' t4' t5' raw' (.int n' tnn') (.int nt' tnt') (.ref tn') (.bool simple')) ∈ news)
    (hn' : (tn', tupO [.ref tc', .int b' tb'] k1') ∈ news) (hc' : (tc', tupO vs' k2') ∈ news) (hi' : IntsAre vs' cs') (hl' : cs'.length ≤ 1000) (hb' : 0 ≤ b' ∧ b' ≤ 1000) :
    Fn w 140 2 16 [.ref x, .ref x'] news (Gives news fun _ => Value.bool (lessB n nt b simple cs n' nt' b' simple' cs')) := by
  intro mean mg mb dp un gd cn cs₁ a ccd cl outer A₀ base h₀ La m s Q E B F X N T hk hd hu hret
  k_with_none
  w_top off
  k_with "call builtin:max" => ((k_here; (with_reducible show wpAny _ _ (call (Value.builtin _) [Value.int _ _, Value.int _ _]) _ _ _); (refine' max_letter ?qhh ?qF ?qN ?_; (case qhh => with_unfolding_all rfl); (case qF => k_asm); (case qN => k_asm); intro k9 t9 h9 tk9 hk9 F9 N9; (have hk8 := max_bd hk9 hl hb hl' hb'); (replace hk9 := MaxIs.mk hk9); (try dsimp only); (try k_fold))))
  k_with "call ref" => ((k_here; (with_reducible show wpAny _ _ (call (Value.ref 112) _) _ _ _); k_dflt (refine' longest_c ?qa1 ?qa2 ?qa3 ?qa4 ?qa5 ?qa6 ?qB ?qF ?qX ?qN ?qT ?qhk ?qhd ?qhu ?_; (case qF => k_asm); (case qN => k_asm); (case qa1 => k_mem); (case qa2 => k_mem); (case qa3 => k_mem); (case qa4 => k_mem); (case qa5 => assumption); (case qa6 => assumption); (case qB => k_asm); (case qX => k_asm); (case qT => k_asm); (case qhk => first | exact rfl | assumption); (case qhd => ktr_room); (case qhu => ktr_units); intro t9 h9 tk9 F9 N9; (try dsimp only); (try k_fold))))
  k_with "call ref" => ((k_here; (with_reducible show wpAny _ _ (call (Value.ref 119) _) _ _ _); k_dflt (refine' indent_c ?qa1 ?qa2 ?qa3 ?qa4 ?qa5 ?qa6 ?qa7 ?qa8 ?qB ?qF ?qX ?qN ?qT ?qhk ?qhd ?qhu ?_; (case qF => k_asm); (case qN => k_asm); (case qa1 => k_mem); (case qa2 => k_mem); (case qa3 => k_mem); (case qa4 => k_mem); (case qa5 => assumption); (case qa6 => assumption); (case qa7 => omega); (case qa8 => omega); (case qB => k_asm); (case qX => k_asm); (case qT => k_asm); (case qhk => first | exact rfl | assumption); (case qhd => ktr_room); (case qhu => ktr_units); intro t9 h9 tk9 F9 N9; (try dsimp only); (try k_fold))))
  refine wpAny_call ?_
  k_dflt cell_enter
  (k_with "state" => first | exact lsp_nil | exact lsp_snoc (by assumption) (by assumption))
  (k_with "pyIter ref" => k_dflt (k_search (fun (pre : List Int) => LSP b nt cs b' nt' cs' pre)))
  k_steps
  all_goals (refine gives_bool hret (by k_asm) (by first | k_asm | exact drop_own (by k_asm)) ?_; first
    | exact less_e1 (by assumption)
    | exact less_e2 (by assumption) (by assumption) (by assumption)
    | exact less_e3 (by assumption) (by first | exact and_f1 (by assumption) | exact and_f2 (by assumption)) (by assumption) (by assumption) (by assumption) (by assumption)
    | exact less_e4 (by assumption) (by first | exact and_f1 (by assumption) | exact and_f2 (by assumption)) (by assumption) (by assumption))
end
section
/-- what a Whitespace has counted -/
structure WS where
  n : Int
  b : Int
  nt : Int
  cs : List Int
def fill (cs : List Int) (b : Int) : List Int := if b ≥ cs.length then cs ++ List.replicate (b - cs.length + 1).toNat 0 else cs
def bump (cs : List Int) (b : Int) : List Int := (fill cs b).set b.toNat ((fill cs b).getD b.toNat 0 + 1)
def WS.step (s : WS) (c : Nat) : WS := if c = 32 then ⟨s.n + 1, s.b + 1, s.nt, s.cs⟩ else ⟨s.n + 1, 0, s.nt + 1, bump s.cs s.b⟩
def wsRun (l : List Nat) : WS := l.foldl WS.step ⟨0, 0, 0, []⟩
def WP (pre : List Nat) (n b nt : Int) (cs : List Int) : Prop := WS.mk n b nt cs = wsRun pre ∧ ∀ c ∈ pre, c = 32 ∨ c = 9
abbrev wsPs (n b nt : Int) (lc : Addr) (t1 t2 t3 : Tok) : List (PySem.Str × Value) := [(PySem.Str.ofString "n", .int n t1), (PySem.Str.ofString "b", .int b t2), (PySem.Str.ofString "nt", .int nt t3), (PySem.Str.ofString "count", .ref lc)]
/-- the signs of a lead -/
def blanks (l : List Nat) : List Nat := l.takeWhile fun c => c == 32 || c == 9
abbrev WSt (base : List (Addr × Obj)) (m₀ : PySem.Str → Option Value) (n b nt : Int) (cs : List Int) (lc : Addr) (vs : List Value) (k : Nat) (t1 t2 t3 : Tok) (m : PySem.Str → Option Value) (nx : List (Addr × Obj)) : Prop :=
  nx = (lc, listOf vs.toArray k) :: base ∧ AllLt lc base ∧ IntsAre vs cs ∧ (∀ p ∈ wsPs n b nt lc t1 t2 t3, m p.1 = some p.2) ∧ ∀ z, z ≠ PySem.Str.ofString "ch" → (∀ p ∈ wsPs n b nt lc t1 t2 t3, z ≠ p.1) → ([] : List PySem.Str).contains z = false → m z = m₀ z
/-- between two turns of the loop over the signs; behind it -/
def WJ (x : PySem.Str) (base : List (Addr × Obj)) (m₀ : PySem.Str → Option Value) (i : Nat) (m : PySem.Str → Option Value) (nx : List (Addr × Obj)) : Prop :=
  ∃ (n b nt : Int) (cs : List Int) (lc : Addr) (vs : List Value) (k : Nat) (t1 t2 t3 : Tok), WSt base m₀ n b nt cs lc vs k t1 t2 t3 m nx ∧ WP ((sg x).take i) n b nt cs ∧ 0 ≤ b ∧ b ≤ i ∧ cs.length ≤ i
def WD (x : PySem.Str) (base : List (Addr × Obj)) (m₀ : PySem.Str → Option Value) (m : PySem.Str → Option Value) (nx : List (Addr × Obj)) : Prop :=
  ∃ (n b nt : Int) (cs : List Int) (lc : Addr) (vs : List Value) (k : Nat) (t1 t2 t3 : Tok), WSt base m₀ n b nt cs lc vs k t1 t2 t3 m nx ∧ WS.mk n b nt cs = wsRun (blanks (sg x)) ∧ 0 ≤ b ∧ b ≤ x.length ∧ cs.length ≤ x.length
theorem takeWhile_all {p : Nat → Bool} : ∀ {l : List Nat}, (∀ c ∈ l, p c = true) → l.takeWhile p = l
  | [], _ => rfl
  | c :: r, h => by rw [List.takeWhile_cons, h c (.head _), if_pos rfl, takeWhile_all fun d hd => h d (.tail _ hd)]
theorem takeWhile_stop {p : Nat → Bool} {l : List Nat} {i c : Nat} (h : ∀ d ∈ l.take i, p d = true) (hc : l[i]? = some c) (hp : p c = false) : l.takeWhile p = l.take i := by
  have hi : i < l.length := by
    rcases Nat.lt_or_ge i l.length with q | q
    · exact q
    · rw [List.getElem?_eq_none q] at hc; cases hc
  have e : l = l.take i ++ c :: l.drop (i + 1) := by
    rw [List.getElem?_eq_getElem hi] at hc
    rw [← Option.some.inj hc, ← List.drop_eq_getElem_cons hi, List.take_append_drop]
  conv => lhs; rw [e]
  rw [List.takeWhile_append_of_pos h, List.takeWhile_cons, hp]; simp
theorem wd_of_wj {x : PySem.Str} {base : List (Addr × Obj)} {m₀ m : PySem.Str → Option Value} {nx : List (Addr × Obj)} (h : WJ x base m₀ x.cps.size m nx) : WD x base m₀ m nx := by
  obtain ⟨n, b, nt, cs, lc, vs, k, t1, t2, t3, h1, ⟨h2, h3⟩, h4, h5, h6⟩ := h
  have e : (sg x).take x.cps.size = sg x := List.take_of_length_le (by rw [← sg_len]; exact Nat.le_refl _)
  rw [e] at h2 h3
  refine ⟨n, b, nt, cs, lc, vs, k, t1, t2, t3, h1, ?_, h4, h5, h6⟩
  rw [h2]
  unfold blanks
  rw [takeWhile_all (fun c hc => by rcases h3 c hc with h | h <;> rw [h] <;> rfl)]
theorem wp_snoc {x : PySem.Str} {i c : Nat} {n b nt : Int} {cs : List Int} (hc : x.cps[i]? = some c) (h : WP ((sg x).take i) n b nt cs) (hb : c = 32 ∨ c = 9) : (WS.mk n b nt cs).step c = wsRun ((sg x).take (i + 1)) ∧ ∀ d ∈ (sg x).take (i + 1), d = 32 ∨ d = 9 := by
  have hc' : (sg x)[i]? = some c := by simpa using hc
  have e : (sg x).take (i + 1) = (sg x).take i ++ [c] := by rw [List.take_add_one, hc']; rfl
  rw [e]
  refine ⟨?_, fun d hd => (List.mem_append.mp hd).elim (h.2 d) fun q => by rw [List.mem_singleton.mp q]; exact hb⟩
  unfold wsRun; rw [List.foldl_append]
  show _ = WS.step (wsRun _) c
  rw [← h.1]
theorem wj_end {x : PySem.Str} {base own news' : List (Addr × Obj)} {m₀ m' : PySem.Str → Option Value} {i tk : Nat} {h₀ h' : Heap} {La lc : Addr} {s₁ : Shared} {n b nt : Int} {cs : List Int} {vs : List Value} {k : Nat} {t1 t2 t3 : Tok} {c : Nat} {n₀ b₀ nt₀ : Int} {cs₀ : List Int}
    (F : Fr h₀ La h' m') (N : News h₀ La h' news') (hmem : (lc, listOf vs.toArray k) ∈ news') (hbase : ∀ p ∈ base, p ∈ news') (hown : ∀ p ∈ own, p ∈ news') (hoff : TbOff own base) (hofl : ∀ p ∈ own, p.1 ≠ lc) (hlt : AllLt lc base) (hi : IntsAre vs cs)
    (hps : ∀ p ∈ wsPs n b nt lc t1 t2 t3, m' p.1 = some p.2) (hrest : ∀ z, z ≠ PySem.Str.ofString "ch" → (∀ p ∈ wsPs n b nt lc t1 t2 t3, z ≠ p.1) → ([] : List PySem.Str).contains z = false → m' z = m₀ z)
    (hw : WP ((sg x).take i) n₀ b₀ nt₀ cs₀) (hc : x.cps[i]? = some c) (hb : c = 32 ∨ c = 9) (hst : (WS.mk n₀ b₀ nt₀ cs₀).step c = ⟨n, b, nt, cs⟩) (h0 : 0 ≤ b) (h1 : b ≤ (i : Int) + 1) (h2 : cs.length ≤ i + 1) :
    TbEnd h₀ La (WJ x base m₀ (i + 1)) own s₁ { s₁ with heap := h', toks := tk } := by
  have q := wp_snoc hc hw hb
  rw [hst] at q
  refine ⟨h', tk, m', news', (lc, listOf vs.toArray k) :: base, rfl, F, N, List.forall_mem_cons.mpr ⟨hmem, hbase⟩, hown, fun p hp r hr => ?_, n, b, nt, cs, lc, vs, k, t1, t2, t3, ⟨rfl, hlt, hi, hps, hrest⟩, q, h0, by exact_mod_cast h1, h2⟩
  rcases List.mem_cons.mp hr with rfl | hr
  · exact hofl p hp
  · exact hoff p hp r hr
theorem sign_eq {c d : Nat} {y : PySem.Str} (h : (({ cps := #[c] } : PySem.Str) == y) = true) (hy : sg y = [d]) : c = d := by
  have e := congrArg sg (eq_of_beq h)
  rw [hy] at e
  exact List.head_eq_of_cons_eq e
theorem sign_ne {c d : Nat} {y : PySem.Str} (h : (({ cps := #[c] } : PySem.Str) == y) = false) (hy : sg y = [d]) : c ≠ d := by
  intro e; subst e
  have q : ({ cps := #[c] } : PySem.Str) = y := by rw [← tx_sg y, hy]
  rw [q] at h; simp at h
theorem sg_blank : sg (PySem.Str.ofString " ") = [32] := by decide +kernel
theorem sg_tab : sg (PySem.Str.ofString "\t") = [9] := by decide +kernel
theorem wd_brk {x : PySem.Str} {base news' : List (Addr × Obj)} {m₀ m' : PySem.Str → Option Value} {i tk : Nat} {h₀ h' : Heap} {La lc : Addr} {s₁ : Shared} {n b nt : Int} {cs : List Int} {vs : List Value} {k : Nat} {t1 t2 t3 : Tok} {c : Nat}
    (F : Fr h₀ La h' m') (N : News h₀ La h' news') (hmem : (lc, listOf vs.toArray k) ∈ news') (hbase : ∀ p ∈ base, p ∈ news') (hlt : AllLt lc base) (hi : IntsAre vs cs)
    (hps : ∀ p ∈ wsPs n b nt lc t1 t2 t3, m' p.1 = some p.2) (hrest : ∀ z, z ≠ PySem.Str.ofString "ch" → (∀ p ∈ wsPs n b nt lc t1 t2 t3, z ≠ p.1) → ([] : List PySem.Str).contains z = false → m' z = m₀ z)
    (hw : WP ((sg x).take i) n b nt cs) (hc : x.cps[i]? = some c) (h32 : c ≠ 32) (h9 : c ≠ 9) (h0 : 0 ≤ b) (h1 : b ≤ (i : Int)) (h2 : cs.length ≤ i) (hil : i < x.length) :
    SiBrk h₀ La (WD x base m₀) s₁ { s₁ with heap := h', toks := tk } := by
  refine ⟨h', tk, m', news', (lc, listOf vs.toArray k) :: base, rfl, F, N, List.forall_mem_cons.mpr ⟨hmem, hbase⟩, n, b, nt, cs, lc, vs, k, t1, t2, t3, ⟨rfl, hlt, hi, hps, hrest⟩, ?_, h0, by omega, by omega⟩
  have hc' : (sg x)[i]? = some c := by simpa using hc
  rw [hw.1]
  unfold blanks
  rw [takeWhile_stop (fun d hd => by rcases hw.2 d hd with h | h <;> rw [h] <;> rfl) hc' (by simp [h32, h9])]
theorem bump_fill {cs : List Int} {b : Int} (h : (cs.length : Int) ≤ b) : bump cs b = (cs ++ (List.replicate (b - cs.length + 1).toNat [(0 : Int)]).flatten).set b.toNat ((cs ++ (List.replicate (b - cs.length + 1).toNat [(0 : Int)]).flatten).getD b.toNat 0 + 1) := by
  have e : ∀ n : Nat, (List.replicate n [(0 : Int)]).flatten = List.replicate n 0 := by
    intro n; induction n with
    | zero => rfl
    | succ n ih => rw [List.replicate_succ, List.flatten_cons, ih]; rfl
  rw [e]; unfold bump fill; rw [if_pos h]
theorem bump_keep {cs : List Int} {b : Int} (h : ¬ (cs.length : Int) ≤ b) : bump cs b = cs.set b.toNat (cs.getD b.toNat 0 + 1) := by
  unfold bump fill; rw [if_neg h]
theorem step_blank {n b nt : Int} {cs : List Int} {c : Nat} (h : c = 32) : (WS.mk n b nt cs).step c = ⟨n + 1, b + 1, nt, cs⟩ := if_pos h
theorem step_tab {n b nt : Int} {cs cs' : List Int} {c : Nat} (h : c = 9) (e : bump cs b = cs') : (WS.mk n b nt cs).step c = ⟨n + 1, 0, nt + 1, cs'⟩ := by subst h; subst e; rfl
theorem allLt_left {d : Addr} {a b : List (Addr × Obj)} (h : AllLt d (a ++ b)) : AllLt d a := allLt_of fun p hp => kst_ltOf h p (List.mem_append.mpr (.inl hp))
theorem keep4 {h₀ h : Heap} {La : Addr} {p1 p2 p3 p4 p5 p6 : Addr × Obj} {news : List (Addr × Obj)} (N : News h₀ La h (p1 :: p2 :: p3 :: p4 :: p5 :: p6 :: news)) : News h₀ La h (p5 :: p6 :: p1 :: p2 :: news) := by
  refine fun p hp => N p ?_
  simp only [List.mem_cons] at hp ⊢
  rcases hp with h | h | h | h | h
  · exact .inr (.inr (.inr (.inr (.inl h))))
  · exact .inr (.inr (.inr (.inr (.inr (.inl h)))))
  · exact .inl h
  · exact .inr (.inl h)
  · exact .inr (.inr (.inr (.inr (.inr (.inr h)))))
/-- it hands back a new Whitespace -/
abbrev GivesWs (w : World) (x : PySem.Str) (t : Tok) (news : List (Addr × Obj)) (h₀ : Heap) (La : Addr) (m : PySem.Str → Option Value) (s : Shared) (Q _E : Value → Shared → Prop) : Prop :=
  ∀ (a d tn tc : Addr) (t1 t2 t3 t4 t5 tb tnt tnn : Tok) (n b nt : Int) (cs : List Int) (vs : List Value) (h' : Heap) (tk' : Nat), WS.mk n b nt cs = wsRun (blanks (sg x)) → IntsAre vs cs → 0 ≤ b → b ≤ x.length → cs.length ≤ x.length →
    AllLt d news → d < a → a < tc → tc < tn → Fr h₀ La h' m →
    News h₀ La h' ((a, instObj 150 d) :: (d, wsd w t1 t2 t3 t4 t5 (.str x t) (.int n tnn) (.int nt tnt) (.ref tn) (.bool (decide ((cs.length : Int) ≤ 1)))) :: (tn, tupO [.ref tc, .int b tb] 0) :: (tc, tupO vs 0) :: news) →
    Q (.ref a) { s with heap := h', toks := tk' }
theorem ws_end {w : World} {x : PySem.Str} {t : Tok} {news : List (Addr × Obj)} {h₀ : Heap} {La : Addr} {m : PySem.Str → Option Value} {s : Shared} {Q E : Value → Shared → Prop} (hret : GivesWs w x t news h₀ La m s Q E)
    {a d tn tc : Addr} {t1 t2 t3 t4 t5 tb tnt tnn : Tok} {n b nt : Int} {cs : List Int} {vs : List Value} {h' : Heap} {tk' : Nat} {p3 p4 : Addr × Obj}
    (N : News h₀ La h' ((tn, tupO [.ref tc, .int b tb] 0) :: (tc, tupO vs 0) :: p3 :: p4 :: (a, instObj 150 d) :: (d, wsd w t1 t2 t3 t4 t5 (.str x t) (.int n tnn) (.int nt tnt) (.ref tn) (.bool (decide ((cs.length : Int) ≤ 1)))) :: news))
    (F : Fr h₀ La h' m) (hw : WS.mk n b nt cs = wsRun (blanks (sg x))) (hi : IntsAre vs cs) (h0 : 0 ≤ b) (h1 : b ≤ x.length) (h2 : cs.length ≤ x.length)
    (hd : ∀ p ∈ news, p.1 < d) (ha : d < a) (hc : a < tc) (hn : tc < tn) : Q (.ref a) { s with heap := h', toks := tk' } :=
  hret a d tn tc t1 t2 t3 t4 t5 tb tnt tnn n b nt cs vs h' tk' hw hi h0 h1 h2 (allLt_of hd) ha hc hn F (keep4 N)
set_option maxHeartbeats 8000000 in
theorem init_c {w : World} {x : PySem.Str} {t : Tok} (hx : x.length ≤ 10000) {news : List (Addr × Obj)} :
    Fn w 150 2 16 [Value.str x t] news (GivesWs w x t news) := by
  intro mean mg mb dp un gd cn cs a ccd cl outer A₀ base h₀ La m s Q E B F X N T hk hd hu hret
  k_with_none
  w_top off
  k_with "k_enter" => (k_dflt (refine' code_def ?k1 ?k2 ?k3 ?k4 ?k5 ?kA ?kF ?kK ?k6 ?k7 ?k8 ?k9 ?kB ?_ ?c2 ?c3 ?c4 ?c5; (case kA => exact rfl); (case kF => exact rfl); (case kK => first | exact rfl | assumption); (case k1 => k_asm); (case k2 => k_asm); (case k3 => k_asm); (case k4 => k_asm); (case k5 => k_asm); (case k6 => k_is); (case k7 => k_is); (case k8 => ktr_room); (case k9 => exact BindsTo.of_eq rfl); (case c5 => decide); (case kB => exact locs rfl); (case c2 => exact rfl); (case c3 => exact rfl); (case c4 => exact rfl); k_whole))
  k_with "k_all" => (first | assumption | exact (fun p hp => Nat.ne_of_lt (kst_ltOf (by assumption) p hp)))
  k_with "WJ_BASE" => ((intro p hp; simp only [List.mem_cons, List.mem_append] at hp ⊢; rcases hp with h | h | h | h <;> simp only [h, true_or, or_true]))
  k_with "WJ_OWN" => ((intro p hp; simp only [List.mem_cons, List.mem_append, hp, true_or, or_true]))
  k_with "WJ_REST" => ((intro z hz hp hcn; simp only [wsPs, List.forall_mem_cons] at hp; simp only [hz, hp.1, hp.2.1, hp.2.2.1, hp.2.2.2.1, hcn, Bool.false_eq_true, if_false]))
  k_with "call type:tuple" => ((k_here; (with_reducible show wpAny _ _ (call (Value.type _) [Value.ref _]) _ _ _); k_dflt (refine' kde_tupleOf ?qk1 ?qk2 ?qk3 ?qk4 ?qk5 ?_; (case qk1 => k_asm); (case qk2 => k_asm); (case qk3 => exact News.isList (by k_asm) (by k_mem)); (case qk4 => omega); (case qk5 => exact rfl); k_whole); intro D' h' F' N' l1; (try k_lt l1); (try k_sweep)))
  repeat' (first | (k_unfold; (try dsimp only)) | ((fail_if_success (with_reducible show wpAny _ _ (pyIter _) _ _ _)); walk1) | ((fail_if_success (with_reducible show wpAny _ _ (pyIter _) _ _ _)); dsimp only; walk1))
  rename Fr _ _ _ _ => kF
  rename News _ _ _ _ => kN
  refine' str_inv_brk (WJ x _ _) (WD x _ _) (by rfl) kF kN ⟨0, 0, 0, [], _, [], _, _, _, _, ⟨rfl, ?a1, IntsAre.nil, ?a2, fun _ _ _ _ => rfl⟩, ⟨rfl, fun _ h => (nomatch h)⟩, Int.le_refl _, Int.le_refl _, Nat.le_refl _⟩ (fun _ _ h => wd_of_wj h) ?turn ?done
  case a1 => (rename _ ∧ _ ∧ _ ∧ AllLt _ _ => hL; exact hL)
  case a2 => kst_all
  case turn =>
    clear kF kN
    intro i c t₁ m₁ nx h₁ tk₁ own hc hoff hJ kF kN
    obtain ⟨n, b, nt, cs, lc, vs, k, t1, t2, t3, ⟨hnx, hne, hi, hps, hrest⟩, hwp, hb0, hb1, hcl⟩ := hJ
    subst hnx
    have kF := kst_fr hps hrest kF
    dsimp only [kstB] at kF
    have hvs : vs.toArray.size = cs.length := by rw [List.size_toArray, hi.length]
    have hil : i < x.length := (Array.getElem?_eq_some_iff.mp hc).1
    have hne0 := hne
    simp only [AllLt] at hne
    have hof1 := fun p hp => hoff p hp _ (.head _)
    have hof2 := fun p hp q hq => hoff p hp q (.tail _ hq)
    dsimp only at hof1
    have hall : ∀ p ∈ _ ++ own, p.1 ≠ lc := fun p hp => (List.mem_append.mp hp).elim (fun h => Nat.ne_of_lt (kst_ltOf hne.2.2.2 p h)) (hof1 p)
    simp only [List.cons_append] at kN
    k_steps
    · have e1 := sign_eq (by assumption) sg_blank
      refine' wj_end (n := n + 1) (b := b + 1) (nt := nt) (cs := cs) (vs := vs) (lc := lc) (by k_asm) (by k_asm) ?hmem ?hbase ?hown hof2 hof1 hne0 hi ?ps ?rest hwp hc (.inl e1) (step_blank e1) (by omega) (by omega) (by omega)
      case hmem => k_mem
      case hbase => walk_at "WJ_BASE"
      case hown => walk_at "WJ_OWN"
      case ps => kst_all
      case rest => walk_at "WJ_REST"
    · have e1 := sign_eq (by assumption) sg_tab
      have e2 := bump_fill (by assumption : (cs.length : Int) ≤ b)
      rename IntsAre _ _ => hI1
      rename _ ∧ _ => hL1
      have hL2 := hL1.2.2.2.2.2.2
      refine' wj_end (n := n + 1) (b := 0) (nt := nt + 1) (cs := (cs ++ (List.replicate (b - cs.length + 1).toNat [(0 : Int)]).flatten).set b.toNat ((cs ++ (List.replicate (b - cs.length + 1).toNat [(0 : Int)]).flatten).getD b.toNat 0 + 1)) (by k_asm) (by k_asm) ?hmem ?hbase ?hown hof2 (fun p hp => Nat.ne_of_lt (kst_ltOf hL2 p (List.mem_append.mpr (.inr hp)))) ⟨hL1.2.2.2.1, hL1.2.2.2.2.1, hL1.2.2.2.2.2.1, allLt_left hL2⟩ hI1 ?ps ?rest hwp hc (.inr e1) (step_tab e1 e2) (by omega) (by omega) ?len
      case hmem => k_mem
      case hbase => walk_at "WJ_BASE"
      case hown => walk_at "WJ_OWN"
      case ps => kst_all
      case rest => walk_at "WJ_REST"
      case len =>
        rw [List.length_set, List.length_append]
        omega
    · have e1 := sign_eq (by assumption) sg_tab
      have e2 := bump_keep (by assumption : ¬ (cs.length : Int) ≤ b)
      rename IntsAre _ _ => hI1
      refine' wj_end (n := n + 1) (b := 0) (nt := nt + 1) (cs := cs.set b.toNat (cs.getD b.toNat 0 + 1)) (vs := vs.set b.toNat _) (lc := lc) (by k_asm) (by k_asm) ?hmem ?hbase ?hown hof2 hof1 hne0 hI1 ?ps ?rest hwp hc (.inr e1) (step_tab e1 e2) (by omega) (by omega) (by rw [List.length_set]; omega)
      case hmem => k_mem
      case hbase => walk_at "WJ_BASE"
      case hown => walk_at "WJ_OWN"
      case ps => kst_all
      case rest => walk_at "WJ_REST"
    · dsimp only
      refine' wd_brk (lc := lc) (n := n) (b := b) (nt := nt) (cs := cs) (vs := vs) (by k_asm) (by k_asm) ?hmem ?hbase hne0 hi ?ps ?rest hwp hc (sign_ne (by assumption) sg_blank) (sign_ne (by assumption) sg_tab) hb0 hb1 hcl hil
      case hmem => k_mem
      case hbase => walk_at "WJ_BASE"
      case ps => kst_all
      case rest => walk_at "WJ_REST"
  case done =>
    clear kF kN
    intro m₁ nx h₁ tk₁ hJ kF kN
    obtain ⟨n, b, nt, cs, lc, vs, k, t1, t2, t3, ⟨hnx, hne, hi, hps, hrest⟩, hwp, hb0, hb1, hcl⟩ := hJ
    subst hnx
    have kF := kst_frOut hps hrest kF
    dsimp only [kstB] at kF
    have hvs : vs.toArray.size = cs.length := by rw [List.size_toArray, hi.length]
    have hne0 := hne
    simp only [AllLt] at hne
    have hall : ∀ p ∈ news, p.1 ≠ lc := fun p hp => Nat.ne_of_lt (kst_ltOf hne.2.2.2 p hp)
    k_steps
    rename News h₀ La _ _ => kN2
    refine ws_end hret kN2 (by k_asm) hwp hi hb0 hb1 hcl (by assumption) (by assumption) (ltN (by omega)) (ltN (by omega))
end
section
/-! what _law_read reads off a page, in plain Lean -/
def lessWS (a b : WS) : Bool := lessB a.n a.nt a.b (decide ((a.cs.length : Int) ≤ 1)) a.cs b.n b.nt b.b (decide ((b.cs.length : Int) ≤ 1)) b.cs
def ws0 : WS := ⟨0, 0, 0, []⟩
/-- the number of a deed's sign -/
def tokOf (c : Nat) : Int := if c = 37 then 24 else if c = 42 then 16 else if c = 43 then 14 else if c = 62 then 21 else 49
/-- what has been read; open rows: the last one first -/
structure RS where
  at' : Int
  ks : List Int
  ns : List PySem.Str
  ab : List Int
  ws : List WS
  lr : List Int
def popR (ws : List WS) (st : WS) : List Int → List Int
  | [] => []
  | j :: r => if lessWS (ws.getD j.toNat ws0) st then j :: r else popR ws st r
def rowWS (pg : List Nat) (s : RS) : WS := wsRun (blanks (pg.drop s.at'.toNat))
def rowAt (pg : List Nat) (s : RS) : Int := s.at' + (rowWS pg s).n
def isName (pg : List Nat) (s : RS) : Bool := (pg.drop (rowAt pg s).toNat).take 1 == [34]
def rowName (pg : List Nat) (s : RS) : List Nat := pq (pg.drop ((rowAt pg s).toNat + 1))
def rowKs (pg : List Nat) (s : RS) : List Int := if isName pg s then s.ks ++ [255 + ((s.ns.length : Int) + 1)] else s.ks ++ [tokOf ((pg.drop (rowAt pg s).toNat).headD 0)]
def rowNs (pg : List Nat) (s : RS) : List PySem.Str := if isName pg s then s.ns ++ [tx (rowName pg s)] else s.ns
def rowNext (pg : List Nat) (s : RS) : Int := if isName pg s then rowAt pg s + (rowName pg s).length + ((rowName pg s).count 34 : Nat) + 3 else rowAt pg s + 2
def rowLr (pg : List Nat) (s : RS) : List Int := popR s.ws (rowWS pg s) s.lr
def rowStep (pg : List Nat) (s : RS) : RS :=
  ⟨rowNext pg s, rowKs pg s, rowNs pg s, s.ab ++ [(rowLr pg s).headD (-1)], s.ws ++ [rowWS pg s], (s.ws.length : Int) :: rowLr pg s⟩
/-- a row that can be read -/
structure RowOK (pg : List Nat) (s : RS) : Prop where
  pos : 0 ≤ s.at'
  head : ∃ c r, pg.drop (rowAt pg s).toNat = c :: r ∧ (c = 34 ∨ c = 37 ∨ c = 42 ∨ c = 43 ∨ c = 62 ∨ c = 64)
  ln : ∀ j ∈ s.lr, 0 ≤ j ∧ j < s.ws.length
  few : s.ns.length ≤ 100 ∧ s.ws.length ≤ 100 ∧ s.lr.length ≤ 100 ∧ s.ks.length ≤ 100 ∧ s.ab.length ≤ 100
def rows (pg : List Nat) : Nat → RS
  | 0 => ⟨0, [], [], [], [], []⟩
  | n + 1 => rowStep pg (rows pg n)
theorem ws_n : ∀ (l : List Nat) (s : WS), (l.foldl WS.step s).n = s.n + l.length
  | [], s => by simp
  | c :: r, s => by
    have ih := ws_n r (s.step c)
    rw [List.foldl_cons, ih]
    have : (s.step c).n = s.n + 1 := by unfold WS.step; split <;> rfl
    rw [this, List.length_cons]; omega
theorem wsRun_n (l : List Nat) : (wsRun l).n = l.length := by unfold wsRun; rw [ws_n]; simp
theorem blanks_le (l : List Nat) : (blanks l).length ≤ l.length := (List.takeWhile_prefix _).length_le
/-- a value of the ledger that is such a Whitespace -/
def LeadIs (w : World) (led : List (Addr × Obj)) (v : Value) (st : WS) : Prop :=
  ∃ (a d tn tc : Addr) (t1 t2 t3 t4 t5 tb tnt tnn : Tok) (raw : Value) (vs : List Value), v = .ref a ∧ (a, instObj 150 d) ∈ led ∧
    (d, wsd w t1 t2 t3 t4 t5 raw (.int st.n tnn) (.int st.nt tnt) (.ref tn) (.bool (decide ((st.cs.length : Int) ≤ 1)))) ∈ led ∧ (tn, tupO [.ref tc, .int st.b tb] 0) ∈ led ∧ (tc, tupO vs 0) ∈ led ∧
    IntsAre vs st.cs ∧ st.cs.length ≤ 1000 ∧ 0 ≤ st.b ∧ st.b ≤ 1000
theorem LeadIs.mono {w : World} {l l' : List (Addr × Obj)} {v : Value} {st : WS} (h : LeadIs w l v st) (hs : ∀ p ∈ l, p ∈ l') : LeadIs w l' v st := by
  obtain ⟨a, d, tn, tc, t1, t2, t3, t4, t5, tb, tnt, tnn, raw, vs, h1, h2, h3, h4, h5, h6⟩ := h
  exact ⟨a, d, tn, tc, t1, t2, t3, t4, t5, tb, tnt, tnn, raw, vs, h1, hs _ h2, hs _ h3, hs _ h4, hs _ h5, h6⟩
def LeadsAre (w : World) (led : List (Addr × Obj)) (vl : List Value) (sts : List WS) : Prop := vl.length = sts.length ∧ ∀ (k : Nat) (v : Value) (st : WS), vl[k]? = some v → sts[k]? = some st → LeadIs w led v st
theorem LeadsAre.snoc {w : World} {l l' : List (Addr × Obj)} {vl : List Value} {sts : List WS} {v : Value} {st : WS} (h : LeadsAre w l vl sts) (hs : ∀ p ∈ l, p ∈ l') (hv : LeadIs w l' v st) : LeadsAre w l' (vl ++ [v]) (sts ++ [st]) := by
  refine ⟨by simp [h.1], fun k v' st' h1 h2 => ?_⟩
  rcases Nat.lt_or_ge k vl.length with q | q
  · rw [List.getElem?_append_left q] at h1
    rw [List.getElem?_append_left (by rw [← h.1]; exact q)] at h2
    exact (h.2 k v' st' h1 h2).mono hs
  · rw [List.getElem?_append_right q] at h1
    rw [List.getElem?_append_right (by rw [← h.1]; exact q)] at h2
    rcases Nat.eq_zero_or_pos (k - vl.length) with e | e
    · rw [e] at h1; rw [← h.1, e] at h2
      simp only [List.getElem?_cons_zero, Option.some.injEq] at h1 h2
      subst h1; subst h2; exact hv
    · rw [List.getElem?_eq_none (by simp only [List.length_cons, List.length_nil]; omega)] at h1
      cases h1
end
section
theorem ws_nn {n b nt : Int} {cs : List Int} {l : List Nat} (h : WS.mk n b nt cs = wsRun (blanks l)) : 0 ≤ n := by
  have := congrArg WS.n h; rw [wsRun_n] at this; simp only at this; omega
section
variable {prog : Program} {w : World} {A : Around} {E : Value → Shared → Prop} {s : Shared} {h₀ : Heap} {La l : Addr} {news : List (Addr × Obj)} {m : PySem.Str → Option Value} {n : Nat} {Q : Value → Shared → Prop} {value slice : Expr} {u : Tok}
theorem last_item {vs : List Value} {lr : List Int} (N : News h₀ La s.heap news) (hb : (l, listOf vs.toArray n) ∈ news) (hi : IntsAre vs lr.reverse) (hne : decide (lr.reverse = []) = false) (h : ∀ t, Q (.int (lr.headD (-1)) t) s)
    (hs : subscripted slice false (.ref l) (.int (-1) u) = operate [.ref l, .int (-1) u] (getItem (.ref l) (.int (-1) u)) := by with_unfolding_all rfl) :
    wpAny (model prog w) A (subscriptTail value slice (.ref l) (.int (-1) u)) Q E s := by
  cases lr with
  | nil => simp at hne
  | cons j r =>
    have hlen := hi.length
    simp only [List.length_reverse, List.length_cons] at hlen
    obtain ⟨t, ht⟩ := hi.get r.length j (by rw [List.reverse_cons, List.getElem?_append_right (by simp)]; simp)
    exact kde_neg (News.isList N hb) (by decide) (by decide) (PyProof.Rows.seqIndex?_neg_one (by omega)) (by rw [hlen]; exact ht) (h t) hs
theorem lead_item {vl : List Value} {ws : List WS} {led : List (Addr × Obj)} {k : Int} (N : News h₀ La s.heap news) (hb : (l, listOf vl.toArray n) ∈ news) (hl : LeadsAre w led vl ws) (h0 : 0 ≤ k) (h1 : k < ws.length) (hz : ws.length ≤ 100)
    (h : ∀ (a d tn tc : Addr) (t1 t2 t3 t4 t5 tb tnt tnn : Tok) (raw : Value) (vs : List Value), (a, instObj 150 d) ∈ led →
      (d, wsd w t1 t2 t3 t4 t5 raw (.int (ws.getD k.toNat ws0).n tnn) (.int (ws.getD k.toNat ws0).nt tnt) (.ref tn) (.bool (decide (((ws.getD k.toNat ws0).cs.length : Int) ≤ 1)))) ∈ led → (tn, tupO [.ref tc, .int (ws.getD k.toNat ws0).b tb] 0) ∈ led → (tc, tupO vs 0) ∈ led →
      IntsAre vs (ws.getD k.toNat ws0).cs → (ws.getD k.toNat ws0).cs.length ≤ 1000 → 0 ≤ (ws.getD k.toNat ws0).b → (ws.getD k.toNat ws0).b ≤ 1000 → Q (.ref a) s)
    (hs : subscripted slice false (.ref l) (.int k u) = operate [.ref l, .int k u] (getItem (.ref l) (.int k u)) := by with_unfolding_all rfl) (hg : ∀ r, letTemporaryGo value (.ref l) r = pure () := by intro _; with_unfolding_all rfl) :
    wpAny (model prog w) A (subscriptTail value slice (.ref l) (.int k u)) Q E s := by
  have hk : k.toNat < ws.length := by omega
  have hv : k.toNat < vl.length := by rw [hl.1]; exact hk
  obtain ⟨a, d, tn, tc, t1, t2, t3, t4, t5, tb, tnt, tnn, raw, vs, e, g1, g2, g3, g4, g5, g6, g7, g8⟩ := hl.2 k.toNat vl[k.toNat] (ws.getD k.toNat ws0) (List.getElem?_eq_getElem hv) (by rw [List.getD_eq_getElem?_getD, List.getElem?_eq_getElem hk]; rfl)
  refine PyProof.Rows.item_list (News.isList N hb) h0 (by omega) ?_ (h a d tn tc t1 t2 t3 t4 t5 tb tnt tnn raw vs g1 g2 g3 g4 g5 g6 g7 g8) hs hg
  rw [List.getElem?_toArray, List.getElem?_eq_getElem hv, e]
end
section
variable {prog : Program} {w : World} {A : Around} {E : Value → Shared → Prop} {Q : Flow → Shared → Prop} {s : Shared} {env : Env} {h₀ : Heap}
theorem inner_while {test : Expr} {body : List Stmt} {pos : Pos} {m₀ : PySem.Str → Option Value} {e1 e2 e3 e4 : Addr × Obj} {rest : List (Addr × Obj)} {li : Addr} {vi : List Value} {ci : Nat} {lr0 : List Int} {ws : List WS} {st st' : WS} (_hst : st = st')
    (F : Fr h₀ env.locals s.heap m₀) (N : News h₀ env.locals s.heap (e1 :: e2 :: e3 :: e4 :: (li, listOf vi.toArray ci) :: rest)) (hi : IntsAre vi lr0.reverse) (hln : ∀ j ∈ lr0, 0 ≤ j ∧ j < ws.length)
    (turn : ∀ (vi : List Value) (ci : Nat) (lr : List Int) h tk, IntsAre vi lr.reverse → (∀ j ∈ lr, 0 ≤ j ∧ j < ws.length) → popR ws st lr = popR ws st lr0 → lr.length ≤ lr0.length → Fr h₀ env.locals h m₀ → News h₀ env.locals h (e1 :: e2 :: e3 :: e4 :: (li, listOf vi.toArray ci) :: rest) →
      wpAny (model prog w) A (isTrue test env (eval test env)) (fun b s₂ =>
        if b = true then wpAny (model prog w) A (execs body env) (KswPost h₀ env.locals s (fun c : List Value × Nat × List Int => e1 :: e2 :: e3 :: e4 :: (li, listOf c.1.toArray c.2.1) :: rest) (fun _ => []) (fun c => IntsAre c.1 c.2.2.reverse ∧ (∀ j ∈ c.2.2, 0 ≤ j ∧ j < (ws.length : Int)) ∧ c.2.2.length ≤ lr0.length) [] m₀ (fun c => popR ws st c.2.2 = popR ws st lr0) (fun c => c.2.2.length) Q (vi, ci, lr)) E s₂ else Q .next s₂) E { s with heap := h, toks := tk })
    (hE : PassesOwn (model prog w) A env E := by passes_own) :
    wpAny (model prog w) A (exec (.While test body [] pos) env) Q E s := by
  refine ksw_while (fun c : List Value × Nat × List Int => e1 :: e2 :: e3 :: e4 :: (li, listOf c.1.toArray c.2.1) :: rest) (fun _ => []) (fun c => IntsAre c.1 c.2.2.reverse ∧ (∀ j ∈ c.2.2, 0 ≤ j ∧ j < (ws.length : Int)) ∧ c.2.2.length ≤ lr0.length) [] (fun c => popR ws st c.2.2 = popR ws st lr0) (fun c => c.2.2.length) (vi, ci, lr0) F N ⟨hi, hln, Nat.le_refl _⟩ (fun _ h => nomatch h) rfl ?_ hE
  rintro ⟨vi', ci', lr'⟩ u h tk ⟨f1, f2, f3⟩ p1 F' N'
  have e : (kstB (fun z => if ([] : List PySem.Str).contains z then u z else m₀ z) []) = m₀ := by funext z; simp [kstB]
  rw [e] at F'
  exact turn vi' ci' lr' h tk f1 f2 p1 f3 F' N'
end
theorem sg_257 : sg (PySem.Str.ofString "257 ") = [50, 53, 55, 32] := by decide +kernel
theorem sg_257' : sg (PySem.Str.ofString "257") = [50, 53, 55] := by decide +kernel
theorem sg_bm : sg (PySem.Str.ofString " \"") = [32, 34] := by decide +kernel
theorem mark_at {x : PySem.Str} {i : Int} (h0 : 0 ≤ i) (hq : (PySem.Txt.slice x (some i) (some (i + 1)) == PySem.Str.ofString "\"") = true) : ((sg x).drop i.toNat).take 1 = [34] := by
  have e := congrArg sg (eq_of_beq hq)
  rw [slice_nn x h0 (by omega), sg_mark, show (i + 1 - i).toNat = 1 by omega] at e
  exact e
theorem mark_no {x : PySem.Str} {i : Int} (h0 : 0 ≤ i) (hq : (PySem.Txt.slice x (some i) (some (i + 1)) == PySem.Str.ofString "\"") = false) : ((sg x).drop i.toNat).take 1 ≠ [34] := by
  intro e
  have : PySem.Txt.slice x (some i) (some (i + 1)) = PySem.Str.ofString "\"" := by
    apply sg_inj; rw [slice_nn x h0 (by omega), sg_mark, show (i + 1 - i).toNat = 1 by omega]; exact e
  rw [this] at hq; simp at hq
theorem mark_cons {l : List Nat} (h : l.take 1 = [34]) : ∃ r, l = 34 :: r := by
  cases l with
  | nil => simp at h
  | cons c r => simp at h; exact ⟨r, by rw [h]⟩
theorem slice_len (x : PySem.Str) {i : Int} (h : 0 ≤ i) : (PySem.Txt.slice x (some i) none).length ≤ x.length := by
  rw [sg_len, slice_from x h, sg_len, List.length_drop]; omega
theorem name_c {w : World} {x : PySem.Str} {i : Int} {t : Tok} (hx : x.length ≤ 1000) (h0 : 0 ≤ i) (hq : (PySem.Txt.slice x (some i) (some (i + 1)) == PySem.Str.ofString "\"") = true) {news : List (Addr × Obj)} :
    Fn w 53 1 8 [Value.str (PySem.Str.ofString "257 " ++ PySem.Txt.slice x (some i) none) t] news (GivesT news fun t => Value.str (tx (pq ((sg x).drop (i.toNat + 1)))) t) := by
  obtain ⟨r, hr⟩ := mark_cons (mark_at h0 hq)
  have hs : sg (PySem.Str.ofString "257 " ++ PySem.Txt.slice x (some i) none) = 50 :: 53 :: 55 :: 32 :: 34 :: r := by
    rw [sg_app, sg_257, slice_from x h0, hr]; rfl
  have hl : (PySem.Str.ofString "257 " ++ PySem.Txt.slice x (some i) none).length = r.length + 5 := by rw [sg_len, hs]; simp
  have hr1 : r.length ≤ x.length := by
    have := congrArg List.length hr
    rw [List.length_drop, ← sg_len] at this; simp at this; omega
  have e2 : r = (sg x).drop (i.toNat + 1) := by rw [← List.drop_drop, hr]; rfl
  have g3 : (PySem.Txt.slice (PySem.Str.ofString "257 " ++ PySem.Txt.slice x (some i) none) none (some 3) != PySem.Str.ofString "257") = false := bne_of (sg_inj (by rw [slice_to _ (by decide), hs, sg_257']; rfl))
  have g5 : (PySem.Txt.slice (PySem.Str.ofString "257 " ++ PySem.Txt.slice x (some i) none) (some 3) (some 5) != PySem.Str.ofString " \"") = false := bne_of (sg_inj (by rw [slice_nn _ (by decide) (by decide), hs, sg_bm]; rfl))
  have key : Fn w 53 1 8 [Value.str (PySem.Str.ofString "257 " ++ PySem.Txt.slice x (some i) none) t] news (GivesT news fun t => Value.str (tx (pq ((sg (PySem.Str.ofString "257 " ++ PySem.Txt.slice x (some i) none)).drop 5))) t) := @parse_c w _ t (by omega) g3 g5 (by omega) news
  rw [hs] at key
  rw [← e2]
  exact @key
section
variable {prog : Program} {w : World} {A : Around} {E : Value → Shared → Prop} {s : Shared} {h₀ : Heap} {La l : Addr} {news : List (Addr × Obj)} {m : PySem.Str → Option Value} {n : Nat} {Q : Value → Shared → Prop} {value slice : Expr} {u : Tok}
theorem head_cases {x : PySem.Str} {i : Int} {c : Nat} {r : List Nat} (h0 : 0 ≤ i) (hc : (sg x).drop i.toNat = c :: r) : PySem.Txt.slice x (some i) (some (i + 1)) = tx [c] := by
  apply sg_inj; rw [slice_nn x h0 (by omega), show (i + 1 - i).toNat = 1 by omega, hc]; rfl
theorem tok_item {x : PySem.Str} {i : Int} {t : Tok} (F : Fr h₀ La s.heap m) (X : (hd.heap_39 w.params).In h₀) (h0 : 0 ≤ i) (hc : ∃ c r, (sg x).drop i.toNat = c :: r ∧ (c = 34 ∨ c = 37 ∨ c = 42 ∨ c = 43 ∨ c = 62 ∨ c = 64)) (hn : ((sg x).drop i.toNat).take 1 ≠ [34])
    (h : ∀ t s', s' = { s with toks := s.toks + 1 } → Q (.int (tokOf (((sg x).drop i.toNat).headD 0)) t) s')
    (hs : ∀ y, subscripted slice false (.ref 155) (.str y t) = operate [.ref 155, .str y t] (getItem (.ref 155) (.str y t)) := by intro _; with_unfolding_all rfl) :
    wpAny (model prog w) A (subscriptTail value slice (.ref 155) (.str (PySem.Txt.slice x (some i) (some (i + 1))) t)) Q E s := by
  obtain ⟨c, r, e, hc⟩ := hc
  rw [head_cases h0 e]
  rw [e] at h hn
  have h := fun t => h t _ rfl
  rcases hc with rfl | rfl | rfl | rfl | rfl | rfl
  · exact absurd rfl hn
  · rw [show tx [37] = PySem.Str.ofString "%" by decide +kernel]
    k_dflt (refine' topItem_K ?F ?X ?l ?k ?e ?_ (hs _); (case F => k_asm); (case X => k_asm); (case l => k_is); (case k => k_keys); (case e => k_is)); exact h _
  · rw [show tx [42] = PySem.Str.ofString "*" by decide +kernel]
    k_dflt (refine' topItem_K ?F ?X ?l ?k ?e ?_ (hs _); (case F => k_asm); (case X => k_asm); (case l => k_is); (case k => k_keys); (case e => k_is)); exact h _
  · rw [show tx [43] = PySem.Str.ofString "+" by decide +kernel]
    k_dflt (refine' topItem_K ?F ?X ?l ?k ?e ?_ (hs _); (case F => k_asm); (case X => k_asm); (case l => k_is); (case k => k_keys); (case e => k_is)); exact h _
  · rw [show tx [62] = PySem.Str.ofString ">" by decide +kernel]
    k_dflt (refine' topItem_K ?F ?X ?l ?k ?e ?_ (hs _); (case F => k_asm); (case X => k_asm); (case l => k_is); (case k => k_keys); (case e => k_is)); exact h _
  · rw [show tx [64] = PySem.Str.ofString "@" by decide +kernel]
    k_dflt (refine' topItem_K ?F ?X ?l ?k ?e ?_ (hs _); (case F => k_asm); (case X => k_asm); (case l => k_is); (case k => k_keys); (case e => k_is)); exact h _
theorem len_sym {its : Array Value} (N : News h₀ La s.heap news) (hb : (l, listOf its n) ∈ news) (hz : its.size ≤ 1000) (h : Q (.int its.size (s.toks + 1)) { s with toks := s.toks + 1 + 1 }) : wpAny (model prog w) A (call (.builtin "len") [.ref l]) Q E s :=
  kun_lenL (News.isList N hb) rfl (by omega) h
end
structure RD where
  vk : List Value
  vn : List Value
  va : List Value
  vl : List Value
  vi : List Value
  ck : Nat
  cn : Nat
  ca : Nat
  cl : Nat
  ci : Nat
  tl : List (Addr × Obj)
  tat : Tok
  r : RS
abbrev RdLed (lk ln la ll li : Addr) (news : List (Addr × Obj)) (c : RD) : List (Addr × Obj) := (li, listOf c.vi.toArray c.ci) :: (ll, listOf c.vl.toArray c.cl) :: (la, listOf c.va.toArray c.ca) :: (ln, listOf c.vn.toArray c.cn) :: (lk, listOf c.vk.toArray c.ck) :: (c.tl ++ news)
abbrev RdPs (c : RD) : List (PySem.Str × Value) := [(PySem.Str.ofString "at", .int c.r.at' c.tat)]
def RdF (w : World) (lk ln la ll li : Addr) (news : List (Addr × Obj)) (c : RD) : Prop := IntsAre c.vk c.r.ks ∧ StrsAre c.vn c.r.ns ∧ IntsAre c.va c.r.ab ∧ IntsAre c.vi c.r.lr.reverse ∧ LeadsAre w (c.tl ++ news) c.vl c.r.ws ∧ ∀ p ∈ c.tl ++ news, p.1 ≠ li ∧ p.1 ≠ ll ∧ p.1 ≠ la ∧ p.1 ≠ ln ∧ p.1 ≠ lk
def RdP (x : PySem.Str) (c : RD) : Prop := ∃ i, c.r = rows (sg x) i ∧ ∀ j < i, (rows (sg x) j).at' < x.length
def TokAll (tk : Nat) (vn : List Value) : Prop := ∀ v ∈ vn, ∀ (y : PySem.Str) (t : Tok), v = .str y t → TokOK tk t
theorem TokAll.le {n n' : Nat} {vn : List Value} (h : TokAll n vn) (hn : n ≤ n') : TokAll n' vn := fun v hv y t e => (h v hv y t e).le hn
theorem TokAll.snoc {n : Nat} {vn : List Value} {y : PySem.Str} {t : Tok} (h : TokAll n vn) (ht : TokOK n t) : TokAll n (vn ++ [.str y t]) := fun v hv y' t' e => by
  rcases List.mem_append.mp hv with q | q
  · exact h v q y' t' e
  · rw [List.mem_singleton.mp q] at e; injection e with e1 e2; rw [← e2]; exact ht
def RdT (x : PySem.Str) (c : RD) (tk : Nat) : Prop := RdP x c ∧ TokAll tk c.vn
def RowIf (x : PySem.Str) (r : RS) : Prop := r.at' < x.length → RowOK (sg x) r
section
variable {prog : Program} {w : World} {A : Around} {E : Value → Shared → Prop} {Q : Flow → Shared → Prop} {s : Shared} {env : Env} {h₀ : Heap}
theorem read_while {test : Expr} {body : List Stmt} {pos : Pos} {m₀ : PySem.Str → Option Value} {p0 : Addr × Obj} {news : List (Addr × Obj)} {lk ln la ll li : Addr} {t0 : Tok} (x : PySem.Str) (hok : ∀ i, (∀ j ≤ i, (rows (sg x) j).at' < x.length) → RowOK (sg x) (rows (sg x) i))
    (F : Fr h₀ env.locals s.heap m₀) (N : News h₀ env.locals s.heap (p0 :: (li, listOf #[] 0) :: (ll, listOf #[] 0) :: (la, listOf #[] 0) :: (ln, listOf #[] 0) :: (lk, listOf #[] 0) :: news))
    (hat : m₀ (PySem.Str.ofString "at") = some (.int 0 t0)) (hne : ∀ p ∈ news, p.1 ≠ li ∧ p.1 ≠ ll ∧ p.1 ≠ la ∧ p.1 ≠ ln ∧ p.1 ≠ lk)
    (turn : ∀ (vk vn va vl vi : List Value) (ck cn ca cl ci : Nat) (tl : List (Addr × Obj)) (tat : Tok) (r : RS) (u : PySem.Str → Option Value) h tk, IntsAre vk r.ks → StrsAre vn r.ns → IntsAre va r.ab → IntsAre vi r.lr.reverse → LeadsAre w (tl ++ news) vl r.ws →
      (∀ p ∈ tl ++ news, p.1 ≠ li ∧ p.1 ≠ ll ∧ p.1 ≠ la ∧ p.1 ≠ ln ∧ p.1 ≠ lk) → (∃ i, r = rows (sg x) i ∧ ∀ j < i, (rows (sg x) j).at' < x.length) → RowIf x r → TokAll tk vn →
      Fr h₀ env.locals h (fun y => if y = PySem.Str.ofString "at" then some (.int r.at' tat) else if ([PySem.Str.ofString "lead", PySem.Str.ofString "name"] : List PySem.Str).contains y then u y else m₀ y) →
      News h₀ env.locals h ((li, listOf vi.toArray ci) :: (ll, listOf vl.toArray cl) :: (la, listOf va.toArray ca) :: (ln, listOf vn.toArray cn) :: (lk, listOf vk.toArray ck) :: (tl ++ news)) →
      wpAny (model prog w) A (isTrue test env (eval test env)) (fun b s₂ =>
        if b = true then wpAny (model prog w) A (execs body env) (TwPost h₀ env.locals s (RdLed lk ln la ll li news) RdPs (RdF w lk ln la ll li news) [PySem.Str.ofString "lead", PySem.Str.ofString "name"] m₀ (RdT x) (fun c => (x.length - c.r.at').toNat) Q ⟨vk, vn, va, vl, vi, ck, cn, ca, cl, ci, tl, tat, r⟩) E s₂ else Q .next s₂) E { s with heap := h, toks := tk })
    (hE : PassesOwn (model prog w) A env E := by passes_own) :
    wpAny (model prog w) A (exec (.While test body [] pos) env) Q E s := by
  refine tw_while (RdLed lk ln la ll li news) RdPs (RdF w lk ln la ll li news) [PySem.Str.ofString "lead", PySem.Str.ofString "name"] (RdT x) (fun c => (x.length - c.r.at').toNat) ⟨[], [], [], [], [], 0, 0, 0, 0, 0, [], t0, rows (sg x) 0⟩ F (fun p hp => N p (.tail _ hp)) ⟨.nil, .nil, .nil, .nil, ⟨rfl, fun k v st h => by simp at h⟩, hne⟩ (fun p hp => by rw [List.mem_singleton.mp hp]; exact hat) ⟨⟨0, rfl, fun j hj => absurd hj (Nat.not_lt_zero _)⟩, fun v hv => nomatch hv⟩ ?_ hE
  rintro ⟨vk, vn, va, vl, vi, ck, cn, ca, cl, ci, tl, tat, r⟩ u h tk ⟨f1, f2, f3, f4, f5, f6⟩ ⟨⟨i, hr, hj⟩, hT⟩ F' N'
  refine turn vk vn va vl vi ck cn ca cl ci tl tat r u h tk f1 f2 f3 f4 f5 f6 ⟨i, hr, hj⟩ (fun hlt => ?_) hT F' N'
  have hr : r = rows (sg x) i := hr
  subst hr
  exact hok i fun j h => by
    rcases Nat.lt_or_ge j i with q | q
    · exact hj j q
    · rw [Nat.le_antisymm h q]; exact hlt
end
theorem lead_eq {x : PySem.Str} {r : RS} {n b nt : Int} {cs : List Int} (h0 : 0 ≤ r.at') (hw : WS.mk n b nt cs = wsRun (blanks (sg (PySem.Txt.slice x (some r.at') none)))) : WS.mk n b nt cs = rowWS (sg x) r := by
  rw [hw, slice_from x h0]; rfl
theorem rd_pos {x : PySem.Str} {r : RS} {n b nt : Int} {cs : List Int} {l : List Nat} (hR : RowIf x r) (h : r.at' < x.length) (hw : WS.mk n b nt cs = wsRun (blanks l)) : 0 ≤ r.at' + n := by
  have := (hR h).pos; have := ws_nn hw; omega
theorem rd_headE {x : PySem.Str} {r : RS} {n b nt : Int} {cs : List Int} (hR : RowIf x r) (h : r.at' < x.length) (hw : WS.mk n b nt cs = wsRun (blanks (sg (PySem.Txt.slice x (some r.at') none)))) :
    ∃ c t, (sg x).drop (r.at' + n).toNat = c :: t ∧ (c = 34 ∨ c = 37 ∨ c = 42 ∨ c = 43 ∨ c = 62 ∨ c = 64) := by
  have e := lead_eq (hR h).pos hw
  have := (hR h).head
  unfold rowAt at this
  rw [← e] at this
  exact this
theorem name_len (x : PySem.Str) (k : Nat) : (tx (pq ((sg x).drop k))).length ≤ x.length := by
  rw [tx_len, sg_len]; exact Nat.le_trans (pq_le _) (by rw [List.length_drop]; omega)
theorem rd_ks {x : PySem.Str} {r : RS} (hok : ∀ i, (∀ j ≤ i, (rows (sg x) j).at' < x.length) → RowOK (sg x) (rows (sg x) i)) (hP : ∃ i, r = rows (sg x) i ∧ ∀ j < i, (rows (sg x) j).at' < x.length) : r.ks.length ≤ 101 := by
  obtain ⟨i, rfl, hj⟩ := hP
  cases i with
  | zero => exact Nat.zero_le _
  | succ i =>
    have := (hok i fun j h => hj j (by omega)).few
    show (rowKs (sg x) (rows (sg x) i)).length ≤ 101
    unfold rowKs; split <;> simp <;> omega
theorem ne_nil_of {lr : List Int} (h : decide (lr.reverse = []) = false) : lr ≠ [] := by
  intro e; subst e; simp at h
theorem nil_of {lr : List Int} (h : decide (lr.reverse = []) = true) : lr = [] := by
  simpa using h
theorem head_ok {lr : List Int} {n : Nat} (h : decide (lr.reverse = []) = false) (hl : ∀ j ∈ lr, 0 ≤ j ∧ j < (n : Int)) : 0 ≤ lr.headD (-1) ∧ lr.headD (-1) < n := by
  cases lr with
  | nil => simp at h
  | cons j r => exact hl j (.head _)
section
variable {prog : Program} {w : World} {A : Around} {E : Value → Shared → Prop} {s : Shared} {h₀ : Heap} {L D : Addr} {m : PySem.Str → Option Value} {news news' : List (Addr × Obj)} {n : Nat}
theorem pop_line {us : List Value} {lr : List Int} {Q : Value → Shared → Prop} (F : Fr h₀ L s.heap m) (N : News h₀ L s.heap news) (U : Upd D (listOf us.toArray n) (listOf us.dropLast.toArray (n + 1)) news news') (hi : IntsAre us lr.reverse) (hne : decide (lr.reverse = []) = false) (hz : lr.length ≤ 1000)
    (h : ∀ h' t, Fr h₀ L h' m → News h₀ L h' news' → IntsAre us.dropLast lr.tail.reverse → Q (.int ((lr.reverse).getLastD 0) t) { s with heap := h' }) : wpAny (model prog w) A (call (.builtin "list.pop") [.ref D]) Q E s := by
  have hl := hi.length
  rw [List.length_reverse] at hl
  have hp : lr ≠ [] := ne_nil_of hne
  have h0 : 0 < us.length := by rw [hl]; exact List.length_pos_iff.mpr hp
  refine kpa_pop F N U hi h0 (by rw [PySem.sizeLine_eq]; omega) fun h' t F' N' hI => h h' t F' N' ?_
  cases lr with
  | nil => exact absurd rfl hp
  | cons j r => simpa using hI
end
theorem pop_go {ws : List WS} {st : WS} {lr : List Int} (h : decide (lr.reverse = []) = false) (hl : lessWS (ws.getD (lr.headD (-1)).toNat ws0) st = false) : popR ws st lr.tail = popR ws st lr := by
  cases lr with
  | nil => simp at h
  | cons j r => simp only [List.headD_cons] at hl; simp only [popR, hl, List.tail_cons]; rfl
theorem pop_stop {ws : List WS} {st : WS} {lr : List Int} (hl : lessWS (ws.getD (lr.headD (-1)).toNat ws0) st = true) (h : decide (lr.reverse = []) = false) : popR ws st lr = lr := by
  cases lr with
  | nil => rfl
  | cons j r => simp only [List.headD_cons] at hl; simp only [popR, hl, if_true]
theorem nm_fit {x : PySem.Str} {k : Nat} (hx : x.length ≤ 1000) : ¬ ((tx (pq ((sg x).drop k))).length : Int) ≥ 2 ^ 63 := by
  have := name_len x k; omega
theorem allLt_up {d e : Nat} : ∀ {l : List (Addr × Obj)}, AllLt d l → d < e → AllLt e l
  | [], _, _ => trivial
  | _ :: _, h, q => ⟨Nat.lt_trans h.1 q, allLt_up h.2 q⟩
theorem cj0 {p r : Prop} (h : p ∧ r) : p := h.1
theorem cj1 {a0 p r : Prop} (h : a0 ∧ p ∧ r) : p := h.2.1
theorem cl1 {a0 p : Prop} (h : a0 ∧ p) : p := h.2
theorem cj2 {a0 a1 p r : Prop} (h : a0 ∧ a1 ∧ p ∧ r) : p := h.2.2.1
theorem cl2 {a0 a1 p : Prop} (h : a0 ∧ a1 ∧ p) : p := h.2.2
theorem cj3 {a0 a1 a2 p r : Prop} (h : a0 ∧ a1 ∧ a2 ∧ p ∧ r) : p := h.2.2.2.1
theorem cl3 {a0 a1 a2 p : Prop} (h : a0 ∧ a1 ∧ a2 ∧ p) : p := h.2.2.2
theorem cj4 {a0 a1 a2 a3 p r : Prop} (h : a0 ∧ a1 ∧ a2 ∧ a3 ∧ p ∧ r) : p := h.2.2.2.2.1
theorem cl4 {a0 a1 a2 a3 p : Prop} (h : a0 ∧ a1 ∧ a2 ∧ a3 ∧ p) : p := h.2.2.2.2
theorem cj5 {a0 a1 a2 a3 a4 p r : Prop} (h : a0 ∧ a1 ∧ a2 ∧ a3 ∧ a4 ∧ p ∧ r) : p := h.2.2.2.2.2.1
theorem cl5 {a0 a1 a2 a3 a4 p : Prop} (h : a0 ∧ a1 ∧ a2 ∧ a3 ∧ a4 ∧ p) : p := h.2.2.2.2.2
theorem cj6 {a0 a1 a2 a3 a4 a5 p r : Prop} (h : a0 ∧ a1 ∧ a2 ∧ a3 ∧ a4 ∧ a5 ∧ p ∧ r) : p := h.2.2.2.2.2.2.1
theorem cl6 {a0 a1 a2 a3 a4 a5 p : Prop} (h : a0 ∧ a1 ∧ a2 ∧ a3 ∧ a4 ∧ a5 ∧ p) : p := h.2.2.2.2.2.2
theorem cj7 {a0 a1 a2 a3 a4 a5 a6 p r : Prop} (h : a0 ∧ a1 ∧ a2 ∧ a3 ∧ a4 ∧ a5 ∧ a6 ∧ p ∧ r) : p := h.2.2.2.2.2.2.2.1
theorem cl7 {a0 a1 a2 a3 a4 a5 a6 p : Prop} (h : a0 ∧ a1 ∧ a2 ∧ a3 ∧ a4 ∧ a5 ∧ a6 ∧ p) : p := h.2.2.2.2.2.2.2
theorem cj8 {a0 a1 a2 a3 a4 a5 a6 a7 p r : Prop} (h : a0 ∧ a1 ∧ a2 ∧ a3 ∧ a4 ∧ a5 ∧ a6 ∧ a7 ∧ p ∧ r) : p := h.2.2.2.2.2.2.2.2.1
theorem cl8 {a0 a1 a2 a3 a4 a5 a6 a7 p : Prop} (h : a0 ∧ a1 ∧ a2 ∧ a3 ∧ a4 ∧ a5 ∧ a6 ∧ a7 ∧ p) : p := h.2.2.2.2.2.2.2.2
theorem cj9 {a0 a1 a2 a3 a4 a5 a6 a7 a8 p r : Prop} (h : a0 ∧ a1 ∧ a2 ∧ a3 ∧ a4 ∧ a5 ∧ a6 ∧ a7 ∧ a8 ∧ p ∧ r) : p := h.2.2.2.2.2.2.2.2.2.1
theorem cl9 {a0 a1 a2 a3 a4 a5 a6 a7 a8 p : Prop} (h : a0 ∧ a1 ∧ a2 ∧ a3 ∧ a4 ∧ a5 ∧ a6 ∧ a7 ∧ a8 ∧ p) : p := h.2.2.2.2.2.2.2.2.2
theorem cj10 {a0 a1 a2 a3 a4 a5 a6 a7 a8 a9 p r : Prop} (h : a0 ∧ a1 ∧ a2 ∧ a3 ∧ a4 ∧ a5 ∧ a6 ∧ a7 ∧ a8 ∧ a9 ∧ p ∧ r) : p := h.2.2.2.2.2.2.2.2.2.2.1
theorem cl10 {a0 a1 a2 a3 a4 a5 a6 a7 a8 a9 p : Prop} (h : a0 ∧ a1 ∧ a2 ∧ a3 ∧ a4 ∧ a5 ∧ a6 ∧ a7 ∧ a8 ∧ a9 ∧ p) : p := h.2.2.2.2.2.2.2.2.2.2
end
section
theorem count_marks (l : List Nat) : PySem.Txt.count (tx l) (PySem.Str.ofString "\"") = ((l.count 34 : Nat) : Int) := by
  have e1 : PySem.Str.ofString "\"" = ⟨#[34]⟩ := by decide +kernel
  rw [e1, count_cnt]
  show cnt 34 (sg (tx l)) = _
  rw [sg_tx]
  induction l with
  | nil => rfl
  | cons c r ih => rw [cnt_cons, ih, List.count_cons]; by_cases h : c = 34 <;> simp [h] <;> omega
theorem ints_snoc {vs : List Value} {ns : List Int} (h : IntsAre vs ns) (n : Int) (t : Tok) : IntsAre (vs ++ [.int n t]) (ns ++ [n]) := IntsAre.append h (IntsAre.cons _ _ IntsAre.nil)
theorem strs_snoc {vs : List Value} {ns : List PySem.Str} (h : StrsAre vs ns) (n : PySem.Str) (t : Tok) : StrsAre (vs ++ [.str n t]) (ns ++ [n]) := StrsAre.append' h (StrsAre.cons _ _ StrsAre.nil)
section
variable {w : World} {h₀ : Heap} {La : Addr} {s s₁ : Shared} {x : PySem.Str} {r : RS} {news news' tl : List (Addr × Obj)} {m₀ m' u : PySem.Str → Option Value} {h' : Heap} {tk : Nat}
/-- the end of a turn of _law_read's loop -/
theorem rd_end {lk ln la ll li : Addr} {vk vn va vl vi vk' vn' vi2 : List Value} {ck cn ca cl ci ck' cn' ca' cl' ci' : Nat} {tat tat' : Tok} {a9 d9 tn9 tc9 : Addr} {t1 t2 t3 t4 t5 tb tnt tnn td ti : Tok} {n b nt d at2 z : Int} {cs : List Int} {vs9 : List Value} {raw : Value} {lr2 : List Int} {ks2 : List Int} {ns2 : List PySem.Str}
    (hok : ∀ i, (∀ j ≤ i, (rows (sg x) j).at' < x.length) → RowOK (sg x) (rows (sg x) i)) (hlt : r.at' < x.length)
    (hw : WS.mk n b nt cs = wsRun (blanks (sg (PySem.Txt.slice x (some r.at') none)))) (hi9 : IntsAre vs9 cs) (hb0 : 0 ≤ b) (hb1 : b ≤ (PySem.Txt.slice x (some r.at') none).length) (hcl : cs.length ≤ (PySem.Txt.slice x (some r.at') none).length) (hx : x.length ≤ 1000)
    (hP : ∃ i, r = rows (sg x) i ∧ ∀ j < i, (rows (sg x) j).at' < x.length) (ha1 : IntsAre va r.ab) (hl1 : LeadsAre w (tl ++ news) vl r.ws)
    (hne : ∀ p ∈ tl ++ news, p.1 ≠ li ∧ p.1 ≠ ll ∧ p.1 ≠ la ∧ p.1 ≠ ln ∧ p.1 ≠ lk)
    (hpop : popR r.ws (WS.mk n b nt cs) r.lr = lr2) (hi2 : IntsAre vi2 lr2.reverse)
    (hks : IntsAre vk' ks2) (hns : StrsAre vn' ns2) (eks : ks2 = rowKs (sg x) r) (ens : ns2 = rowNs (sg x) r) (eat : at2 = rowNext (sg x) r) (hd : d = lr2.headD (-1)) (hz : z = (vl.length : Int))
    (F : Fr h₀ La h' m') (N : News h₀ La h' news')
    (g1 : (a9, instObj 150 d9) ∈ news') (g2 : (d9, wsd w t1 t2 t3 t4 t5 raw (.int n tnn) (.int nt tnt) (.ref tn9) (.bool (decide ((cs.length : Int) ≤ 1)))) ∈ news') (g3 : (tn9, tupO [.ref tc9, .int b tb] 0) ∈ news') (g4 : (tc9, tupO vs9 0) ∈ news')
    (m1 : (li, listOf (vi2 ++ [Value.int z ti]).toArray ci') ∈ news') (m2 : (ll, listOf (vl ++ [Value.ref a9]).toArray cl') ∈ news') (m3 : (la, listOf (va ++ [Value.int d td]).toArray ca') ∈ news') (m4 : (ln, listOf vn'.toArray cn') ∈ news') (m5 : (lk, listOf vk'.toArray ck') ∈ news')
    (hbase : ∀ p ∈ tl ++ news, p ∈ news')
    (hn4 : li < d9 ∧ ll < d9 ∧ la < d9 ∧ ln < d9 ∧ lk < d9) (o1 : d9 < a9) (o2 : a9 < tc9) (o3 : tc9 < tn9)
    (htok : TokAll tk vn') (hat : m' (PySem.Str.ofString "at") = some (.int at2 tat')) (hrest : ∀ z, z ≠ PySem.Str.ofString "at" → ([PySem.Str.ofString "lead", PySem.Str.ofString "name"] : List PySem.Str).contains z = false → m' z = m₀ z) :
    TwEnd h₀ La s (RdLed lk ln la ll li news) RdPs (RdF w lk ln la ll li news) [PySem.Str.ofString "lead", PySem.Str.ofString "name"] m₀ (RdT x) (fun c => (x.length - c.r.at').toNat) ⟨vk, vn, va, vl, vi, ck, cn, ca, cl, ci, tl, tat, r⟩ { s with heap := h', toks := tk } := by
  obtain ⟨i, hr, hj⟩ := hP
  have hRow : RowOK (sg x) r := by
    rw [hr]; exact hok i fun j h => by
      rcases Nat.lt_or_ge j i with q | q
      · exact hj j q
      · rw [Nat.le_antisymm h q, ← hr]; exact hlt
  have hws : WS.mk n b nt cs = rowWS (sg x) r := lead_eq hRow.pos hw
  have hs1 := slice_len x hRow.pos
  have hnn : 0 ≤ n := ws_nn hw
  have hrn : (rowWS (sg x) r).n = n := by rw [← hws]
  have hstep : rowStep (sg x) r = rows (sg x) (i + 1) := by rw [hr]; rfl
  have hgrow : r.at' < (rowStep (sg x) r).at' := by
    show r.at' < rowNext (sg x) r
    unfold rowNext rowAt
    rw [hrn]
    split <;> omega
  refine tw_end (⟨vk', vn', va ++ [.int d td], vl ++ [.ref a9], vi2 ++ [.int z ti], ck', cn', ca', cl', ci', (a9, instObj 150 d9) :: (d9, wsd w t1 t2 t3 t4 t5 raw (.int n tnn) (.int nt tnt) (.ref tn9) (.bool (decide ((cs.length : Int) ≤ 1)))) :: (tn9, tupO [.ref tc9, .int b tb] 0) :: (tc9, tupO vs9 0) :: tl, tat', rowStep (sg x) r⟩ : RD) F N ?_ ⟨?_, ?_, ?_, ?_, ?_, ?_⟩ ?_ ?_ ?_ ?_
  · intro p hp
    simp only [RdLed, List.cons_append, List.mem_cons] at hp
    rcases hp with h | h | h | h | h | h | h | h | h | h
    · rw [h]; exact m1
    · rw [h]; exact m2
    · rw [h]; exact m3
    · rw [h]; exact m4
    · rw [h]; exact m5
    · rw [h]; exact g1
    · rw [h]; exact g2
    · rw [h]; exact g3
    · rw [h]; exact g4
    · exact hbase p h
  · show IntsAre vk' (rowKs (sg x) r); rw [← eks]; exact hks
  · show StrsAre vn' (rowNs (sg x) r); rw [← ens]; exact hns
  · show IntsAre _ (r.ab ++ [(rowLr (sg x) r).headD (-1)])
    unfold rowLr; rw [← hws, hpop, ← hd]; exact ints_snoc ha1 _ _
  · show IntsAre _ ((r.ws.length : Int) :: rowLr (sg x) r).reverse
    unfold rowLr; rw [← hws, hpop, List.reverse_cons, ← hl1.1, ← hz]; exact ints_snoc hi2 _ _
  · refine hl1.snoc (fun p hp => ?_) ⟨a9, d9, tn9, tc9, t1, t2, t3, t4, t5, tb, tnt, tnn, raw, vs9, rfl, ?_, ?_, ?_, ?_, ?_⟩
    · exact .tail _ (.tail _ (.tail _ (.tail _ hp)))
    · exact .head _
    · rw [← hws]; exact .tail _ (.head _)
    · rw [← hws]; exact .tail _ (.tail _ (.head _))
    · exact .tail _ (.tail _ (.tail _ (.head _)))
    · rw [← hws]; exact ⟨hi9, by show cs.length ≤ 1000; omega, hb0, by show b ≤ 1000; omega⟩
  · intro p hp
    obtain ⟨q1, q2, q3, q4, q5⟩ := hn4
    have q : ∀ y : Addr, d9 ≤ y → y ≠ li ∧ y ≠ ll ∧ y ≠ la ∧ y ≠ ln ∧ y ≠ lk := fun y hy =>
      ⟨neN (Nat.ne_of_gt (Nat.lt_of_lt_of_le q1 hy)), neN (Nat.ne_of_gt (Nat.lt_of_lt_of_le q2 hy)), neN (Nat.ne_of_gt (Nat.lt_of_lt_of_le q3 hy)), neN (Nat.ne_of_gt (Nat.lt_of_lt_of_le q4 hy)), neN (Nat.ne_of_gt (Nat.lt_of_lt_of_le q5 hy))⟩
    have l2 : d9 ≤ a9 := Nat.le_of_lt o1
    have l3 : d9 ≤ tc9 := Nat.le_trans l2 (Nat.le_of_lt o2)
    have l4 : d9 ≤ tn9 := Nat.le_trans l3 (Nat.le_of_lt o3)
    simp only [List.cons_append, List.mem_cons] at hp
    rcases hp with h | h | h | h | h
    · rw [h]; exact q _ l2
    · rw [h]; exact q _ (Nat.le_refl _)
    · rw [h]; exact q _ l4
    · rw [h]; exact q _ l3
    · exact hne p h
  · intro p hp
    rw [List.mem_singleton.mp hp]
    show m' _ = some (.int (rowNext (sg x) r) tat')
    rw [← eat]; exact hat
  · intro y hy hc
    exact hrest y (hy _ (.head _)) hc
  · exact ⟨⟨i + 1, hstep, fun j hj' => by
      rcases Nat.lt_or_ge j i with q | q
      · exact hj j q
      · rw [show j = i by omega, ← hr]; exact hlt⟩, htok⟩
  · show (x.length - (rowStep (sg x) r).at').toNat < (x.length - r.at').toNat
    omega
theorem is_name_of {n b nt : Int} {cs : List Int} (h0 : 0 ≤ r.at') (hw : WS.mk n b nt cs = wsRun (blanks (sg (PySem.Txt.slice x (some r.at') none)))) (hq : (PySem.Txt.slice x (some (r.at' + n)) (some (r.at' + n + 1)) == PySem.Str.ofString "\"") = true) : isName (sg x) r = true := by
  have hws := lead_eq h0 hw
  have hn := ws_nn hw
  have e := mark_at (by omega) hq
  unfold isName rowAt
  rw [← hws]; simp only; rw [e]; rfl
theorem no_name_of {n b nt : Int} {cs : List Int} (h0 : 0 ≤ r.at') (hw : WS.mk n b nt cs = wsRun (blanks (sg (PySem.Txt.slice x (some r.at') none)))) (hq : (PySem.Txt.slice x (some (r.at' + n)) (some (r.at' + n + 1)) == PySem.Str.ofString "\"") = false) : isName (sg x) r = false := by
  have hws := lead_eq h0 hw
  have hn := ws_nn hw
  have e := mark_no (by omega) hq
  unfold isName rowAt
  rw [← hws]; simp only; exact beq_eq_false_iff_ne.mpr e
theorem row_at_of {n b nt : Int} {cs : List Int} (h0 : 0 ≤ r.at') (hw : WS.mk n b nt cs = wsRun (blanks (sg (PySem.Txt.slice x (some r.at') none)))) : rowAt (sg x) r = r.at' + n := by
  unfold rowAt; rw [← lead_eq h0 hw]
theorem nm_ks {n b nt : Int} {cs : List Int} {z : Int} (h0 : 0 ≤ r.at') (hw : WS.mk n b nt cs = wsRun (blanks (sg (PySem.Txt.slice x (some r.at') none)))) (hq : (PySem.Txt.slice x (some (r.at' + n)) (some (r.at' + n + 1)) == PySem.Str.ofString "\"") = true) (hz : z = 255 + ((r.ns.length : Int) + 1)) : r.ks ++ [z] = rowKs (sg x) r := by
  unfold rowKs; rw [is_name_of h0 hw hq, hz]; rfl
theorem nm_ns {n b nt : Int} {cs : List Int} (h0 : 0 ≤ r.at') (hw : WS.mk n b nt cs = wsRun (blanks (sg (PySem.Txt.slice x (some r.at') none)))) (hq : (PySem.Txt.slice x (some (r.at' + n)) (some (r.at' + n + 1)) == PySem.Str.ofString "\"") = true) : r.ns ++ [tx (pq ((sg x).drop ((r.at' + n).toNat + 1)))] = rowNs (sg x) r := by
  unfold rowNs rowName; rw [is_name_of h0 hw hq, row_at_of h0 hw]; rfl
theorem nm_at {n b nt : Int} {cs : List Int} (h0 : 0 ≤ r.at') (hw : WS.mk n b nt cs = wsRun (blanks (sg (PySem.Txt.slice x (some r.at') none)))) (hq : (PySem.Txt.slice x (some (r.at' + n)) (some (r.at' + n + 1)) == PySem.Str.ofString "\"") = true) :
    r.at' + n + ((tx (pq ((sg x).drop ((r.at' + n).toNat + 1)))).length : Int) + PySem.Txt.count (tx (pq ((sg x).drop ((r.at' + n).toNat + 1)))) (PySem.Str.ofString "\"") + 3 = rowNext (sg x) r := by
  unfold rowNext rowName; rw [is_name_of h0 hw hq, row_at_of h0 hw, count_marks, tx_len]; rfl
theorem sy_ks {n b nt : Int} {cs : List Int} (h0 : 0 ≤ r.at') (hw : WS.mk n b nt cs = wsRun (blanks (sg (PySem.Txt.slice x (some r.at') none)))) (hq : (PySem.Txt.slice x (some (r.at' + n)) (some (r.at' + n + 1)) == PySem.Str.ofString "\"") = false) : r.ks ++ [tokOf (((sg x).drop (r.at' + n).toNat).headD 0)] = rowKs (sg x) r := by
  unfold rowKs; rw [no_name_of h0 hw hq, row_at_of h0 hw]; rfl
theorem sy_ns {n b nt : Int} {cs : List Int} (h0 : 0 ≤ r.at') (hw : WS.mk n b nt cs = wsRun (blanks (sg (PySem.Txt.slice x (some r.at') none)))) (hq : (PySem.Txt.slice x (some (r.at' + n)) (some (r.at' + n + 1)) == PySem.Str.ofString "\"") = false) : r.ns = rowNs (sg x) r := by
  unfold rowNs; rw [no_name_of h0 hw hq]; rfl
theorem sy_at {n b nt : Int} {cs : List Int} (h0 : 0 ≤ r.at') (hw : WS.mk n b nt cs = wsRun (blanks (sg (PySem.Txt.slice x (some r.at') none)))) (hq : (PySem.Txt.slice x (some (r.at' + n)) (some (r.at' + n + 1)) == PySem.Str.ofString "\"") = false) : r.at' + n + 2 = rowNext (sg x) r := by
  unfold rowNext; rw [no_name_of h0 hw hq, row_at_of h0 hw]; rfl
end
theorem lr_nil {lr : List Int} (h : decide (lr.reverse = []) = true) : (-1 : Int) = lr.headD (-1) := by rw [nil_of h]; rfl
theorem pop_of_nil {ws : List WS} {st : WS} {lr lr0 : List Int} (h : decide (lr.reverse = []) = true) (e : popR ws st lr = popR ws st lr0) : popR ws st lr0 = lr := by
  rw [← e, nil_of h]; rfl
theorem pop_of_stop {ws : List WS} {st : WS} {lr lr0 : List Int} (h : decide (lr.reverse = []) = false) (hl : lessWS (ws.getD (lr.headD (-1)).toNat ws0) st = true) (e : popR ws st lr = popR ws st lr0) : popR ws st lr0 = lr := by
  rw [← e, pop_stop hl h]
/-- it hands back what stands on the page -/
abbrev GivesRead (x : PySem.Str) (news : List (Addr × Obj)) (h₀ : Heap) (La : Addr) (m : PySem.Str → Option Value) (s : Shared) (Q _E : Value → Shared → Prop) : Prop :=
  ∀ (a lk ln la : Addr) (vk vn va : List Value) (ck cn ca i : Nat) (h' : Heap) (tk' : Nat), (∀ j < i, (rows (sg x) j).at' < x.length) → ¬ (rows (sg x) i).at' < x.length →
    IntsAre vk ((rows (sg x) i).ks ++ [0]) → StrsAre vn (rows (sg x) i).ns → TokAll tk' vn → IntsAre va (rows (sg x) i).ab → Fr h₀ La h' m →
    News h₀ La h' ((a, tupO [.ref lk, .ref ln, .ref la] 0) :: (lk, listOf vk.toArray ck) :: (ln, listOf vn.toArray cn) :: (la, listOf va.toArray ca) :: news) →
    Q (.ref a) { s with heap := h', toks := tk' }
theorem read_ret {x : PySem.Str} {news news' : List (Addr × Obj)} {h₀ : Heap} {La : Addr} {m : PySem.Str → Option Value} {s : Shared} {Q E : Value → Shared → Prop} (hret : GivesRead x news h₀ La m s Q E) {r : RS}
    {a lk ln la : Addr} {vk vn va : List Value} {ck cn ca : Nat} {h' : Heap} {tk' : Nat} (hP : ∃ i, r = rows (sg x) i ∧ ∀ j < i, (rows (sg x) j).at' < x.length) (hn : ¬ r.at' < x.length)
    (hk : IntsAre vk (r.ks ++ [0])) (hs : StrsAre vn r.ns) (htk : TokAll tk' vn) (ha : IntsAre va r.ab) (F : Fr h₀ La h' m) (N : News h₀ La h' news') (g1 : (a, tupO [.ref lk, .ref ln, .ref la] 0) ∈ news') (g2 : (lk, listOf vk.toArray ck) ∈ news') (g3 : (ln, listOf vn.toArray cn) ∈ news') (g4 : (la, listOf va.toArray ca) ∈ news') (hm : ∀ p ∈ news, p ∈ news') :
    Q (.ref a) { s with heap := h', toks := tk' } := by
  obtain ⟨i, hr, hj⟩ := hP
  rw [hr] at hn hk hs ha
  exact hret a lk ln la vk vn va ck cn ca i h' tk' hj hn hk hs htk ha F (List.forall_mem_cons.mpr ⟨N _ g1, List.forall_mem_cons.mpr ⟨N _ g2, List.forall_mem_cons.mpr ⟨N _ g3, List.forall_mem_cons.mpr ⟨N _ g4, fun p hp => N p (hm p hp)⟩⟩⟩⟩)
theorem tail_lt {lr : List Int} (h : decide (lr.reverse = []) = false) : lr.tail.length < lr.length := by
  cases lr with
  | nil => simp at h
  | cons j r => simp
theorem nm_z {vn : List Value} {ns : List PySem.Str} {v : Value} (h : vn.length = ns.length) : (255 : Int) + ((vn ++ [v]).toArray.size : Int) = 255 + ((ns.length : Int) + 1) := by simp [h]
end
section
set_option maxHeartbeats 4000000 in
theorem read_c {w : World} {x : PySem.Str} {t : Tok} (hx : x.length ≤ 1000) (hok : ∀ i, (∀ j ≤ i, (rows (sg x) j).at' < x.length) → RowOK (sg x) (rows (sg x) i)) {news : List (Addr × Obj)} :
    Fn w 197 3 200 [Value.str x t] news (GivesRead x news) := by
  intro mean mg mb dp un gd cn cs a ccd cl outer A₀ base h₀ La m s Q E B F X N T hk hd hu hret
  k_with_none
  w_top off
  k_with "k_enter" => (k_dflt (refine' code_def ?k1 ?k2 ?k3 ?k4 ?k5 ?kA ?kF ?kK ?k6 ?k7 ?k8 ?k9 ?kB ?_ ?c2 ?c3 ?c4 ?c5; (case kA => exact rfl); (case kF => exact rfl); (case kK => first | exact rfl | assumption); (case k1 => k_asm); (case k2 => k_asm); (case k3 => k_asm); (case k4 => k_asm); (case k5 => k_asm); (case k6 => k_is); (case k7 => k_is); (case k8 => ktr_room); (case k9 => exact BindsTo.of_eq rfl); (case c5 => decide); (case kB => exact locs rfl); (case c2 => exact rfl); (case c3 => exact rfl); (case c4 => exact rfl); k_whole))
  k_with "k_all" => (assumption)
  k_with "k_mem" => (assumption)
  k_with "k_ne" => (first | with_reducible assumption | (with_reducible exact Ne.symm (by assumption)) | exact Nat.ne_of_lt (by assumption) | exact Nat.ne_of_gt (by assumption))
  k_with "RDNN" => (((rename RowIf _ _ => hR); exact rd_pos hR (by assumption) (by assumption)))
  k_with "RDHEAD" => (((rename RowIf _ _ => hR); exact rd_headE hR (by assumption) (by assumption)))
  k_with "RDLEN" => (((rename RowIf _ _ => hR); have hF := (hR (by assumption)).few; (try simp only [Array.size_push, List.size_toArray]); omega))
  k_with "execs cons" => ((k_here; with_reducible refine execs_tok ?_))
  k_with "execs nil" => ((k_here; with_reducible refine wpAny_execs_nil ?_))
  k_with "LEI" => ((with_reducible refine toks_intro ?_; intro hT9; (try dsimp only at hT9); (try dsimp only)))
  k_with "TOWHILE" => ((repeat' (first | walk_at "LEI" | (k_unfold; (try dsimp only)) | ((fail_if_success (with_reducible show wpAny _ _ (exec (.While _ _ _ _) _) _ _ _)); walk1) | ((fail_if_success (with_reducible show wpAny _ _ (exec (.While _ _ _ _) _) _ _ _)); dsimp only; walk1))))
  k_with "call ref" => ((k_here; (with_reducible show wpAny _ _ (call (Value.ref 150) _) _ _ _); k_dflt (refine' init_c ?qa1 ?qB ?qF ?qX ?qN ?qT ?qhk ?qhd ?qhu ?_; (case qF => k_asm); (case qN => k_asm); (case qa1 => omega); (case qB => k_asm); (case qX => k_asm); (case qT => k_asm); (case qhk => first | exact rfl | assumption); (case qhd => ktr_room); (case qhu => ktr_units)); intro a9 d9 tn9 tc9 t1 t2 t3 t4 t5 tb tnt tnn n9 b9 nt9 cs9 vs9 h9 tk9 hw9 hi9 hb9 hb9' hl9 l1 l2 l3 l4 F9 N9; have l5 := allLt_up l1 l2; have l6 := allLt_up l5 l3; have l7 := allLt_up l6 l4; simp only [AllLt, and_true] at l1 l5 l6 l7; (repeat (obtain ⟨_, l1⟩ : _ ∧ _ := l1)); (repeat (obtain ⟨_, l5⟩ : _ ∧ _ := l5)); (repeat (obtain ⟨_, l6⟩ : _ ∧ _ := l6)); (repeat (obtain ⟨_, l7⟩ : _ ∧ _ := l7)); (try k_lt2 l2); (try k_lt2 l3); (try k_lt2 l4); (try dsimp only); (try k_fold)))
  k_with "call ref" => ((k_here; (with_reducible show wpAny _ _ (call (Value.ref 53) _) _ _ _); k_dflt (refine' name_c ?qa1 ?qa2 ?qa3 ?qB ?qF ?qX ?qN ?qT ?qhk ?qhd ?qhu ?_; (case qF => k_asm); (case qN => k_asm); (case qa1 => assumption); (case qa3 => assumption); (case qa2 => walk_at "RDNN"); (case qB => k_asm); (case qX => k_asm); (case qT => k_asm); (case qhk => first | exact rfl | assumption); (case qhd => ktr_room); (case qhu => ktr_units)); intro t9 h9 tk9 hk9 F9 N9; (try dsimp only); (try k_fold)))
  k_with "call ref" => ((k_here; (with_reducible show wpAny _ _ (call (Value.ref 140) _) _ _ _); k_dflt (refine' less_c ?qa1 ?qa2 ?qa3 ?qa4 ?qa5 ?qa6 ?qa7 ?qb1 ?qb2 ?qb3 ?qb4 ?qb5 ?qb6 ?qb7 ?qB ?qF ?qX ?qN ?qT ?qhk ?qhd ?qhu ?_; (case qF => k_asm); (case qN => k_asm); (case qa1 => k_mem); (case qa2 => k_mem); (case qa3 => k_mem); (case qa4 => k_mem); (case qa5 => assumption); (case qa6 => omega); (case qa7 => (constructor <;> omega)); (case qb1 => k_mem); (case qb2 => k_mem); (case qb3 => k_mem); (case qb4 => k_mem); (case qb5 => assumption); (case qb6 => omega); (case qb7 => (constructor <;> omega)); (case qB => k_asm); (case qX => k_asm); (case qT => k_asm); (case qhk => first | exact rfl | assumption); (case qhd => ktr_room); (case qhu => ktr_units)); intro t9 h9 tk9 F9 N9; (try dsimp only); (try k_fold)))
  k_with "subscriptTail" => ((k_here; (with_reducible show wpAny _ _ (subscriptTail _ _ (Value.ref 155) (Value.str _ _)) _ _ _); k_dflt (refine' tok_item ?qF ?qX ?qa1 ?qa2 ?qa3 ?_; (case qF => k_asm); (case qX => k_asm); (case qa1 => walk_at "RDNN"); (case qa2 => walk_at "RDHEAD"); (case qa3 => exact mark_no (by walk_at "RDNN") (by assumption))); intro t9 s9 hs9; subst hs9; (try dsimp only [List.nil_append, List.cons_append]); (try k_fold)))
  k_with "call builtin:len" => ((k_here; (with_reducible show wpAny _ _ (call (Value.builtin "len") [Value.ref _]) _ _ _); k_dflt (refine' len_sym ?qN ?qa1 ?qa2 ?_; (case qN => k_asm); (case qa1 => k_mem); (case qa2 => walk_at "RDLEN"); k_whole)))
  k_with "call builtin:list.append" => ((k_here; (with_reducible show wpAny _ _ (call (Value.builtin _) [Value.ref _, _]) _ _ _); k_dflt (refine' append_K ?qk1 ?qk2 ?qk3 ?_ ?qz; (case qk1 => k_asm); (case qk2 => k_asm); (case qk3 => k_upd); (case qz => (rw [PySem.sizeLine_eq]; refine Nat.le_trans (m := 1000) ?_ (by decide); walk_at "RDLEN")); k_whole); intro h' F' N'))
  k_with "call builtin:len" => ((k_here; (with_reducible show wpAny _ _ (call (Value.builtin "len") [Value.str (tx _) _]) _ _ _); k_dflt (refine P.len_str (nm_fit (by assumption)) ?_)))
  k_with "compareOp NotEq ref ref" => ((k_here; (with_reducible show wpAny _ _ (compareOp CmpOp.NotEq (Value.ref _) (Value.ref _)) _ _ _); k_dflt (refine' ke_ne_ints ?qa ?qb ?qc ?qd ?qe ?_; (case qa => exact News.isList (by k_asm) (by k_mem)); (case qb => exact News.isList (ys := []) (by k_asm) (by k_mem)); (case qc => assumption); (case qd => exact IntsAre.nil); (case qe => ktr_units))))
  k_with "subscriptTail" => ((k_here; (with_reducible show wpAny _ _ (subscriptTail _ _ (Value.ref _) (Value.int (-1) _)) _ _ _); k_dflt (refine' last_item ?qN ?qa ?qb ?qc ?_; (case qN => k_asm); (case qa => k_mem); (case qb => assumption); (case qc => assumption)); intro t9; (try dsimp only); (try k_fold)))
  k_with "subscriptTail" => ((k_here; (with_reducible show wpAny _ _ (subscriptTail _ _ (Value.ref _) (Value.int (List.headD _ _) _)) _ _ _); k_dflt (refine' lead_item ?qN ?qa ?qb ?qc ?qd ?qe ?_; (case qN => k_asm); (case qa => k_mem); (case qb => assumption); (case qc => exact (head_ok (by assumption) (by assumption)).1); (case qd => exact (head_ok (by assumption) (by assumption)).2); (case qe => omega)); intro a9 d9 tn9 tc9 t1 t2 t3 t4 t5 tb tnt tnn raw9 vs9 g1 g2 g3 g4 g5 g6 g7 g8; (try dsimp only); (try k_fold)))
  k_with "call builtin:list.pop" => ((k_here; (with_reducible show wpAny _ _ (call (Value.builtin _) [Value.ref _]) _ _ _); k_dflt (refine' pop_line ?qF ?qN ?qU ?qi ?ql ?qz ?_; (case qF => k_asm); (case qN => k_asm); (case qU => k_upd); (case qi => assumption); (case ql => assumption); (case qz => omega)); intro h' t' F' N' hI'))
  refine wpAny_call ?_
  k_dflt cell_enter
  (k_with "exec While Compare cons nil" => fail "stop")
  walk_at "TOWHILE"
  rename Fr _ _ _ _ => kF
  rename News _ _ _ _ => kN
  rename ∀ (p : Addr × Obj), p ∈ news → p.fst < _ => hall
  refine' read_while x hok kF kN ?hat ?hne ?turn
  case hat => rfl
  case hne =>
    intro p hp
    have := ltN (hall p hp)
    refine ⟨neN ?_, neN ?_, neN ?_, neN ?_, neN ?_⟩ <;> omega
  case turn =>
    clear kF kN
    intro vk vn va vl vi ck cn ca cl ci tl tat r u h tk hk1 hn1 ha1 hi1 hl1 hne hP hrow hTA kF kN
    have nli := fun p hp => (hne p hp).1
    have nll := fun p hp => (hne p hp).2.1
    have nla := fun p hp => (hne p hp).2.2.1
    have nln := fun p hp => (hne p hp).2.2.2.1
    have nlk := fun p hp => (hne p hp).2.2.2.2
    have lk1 := hk1.length
    have ln1 := hn1.length
    have la1 := ha1.length
    have ll1 := hl1.1
    have li1 := hi1.length
    rw [List.length_reverse] at li1
    have hks := rd_ks hok hP
    walk_at "TOWHILE"
    rotate_left 2
    · rename News _ _ _ _ => kN3
      exact read_ret hret hP (by assumption) (by assumption) hn1 (TokAll.le hTA (by (try dsimp only); omega)) ha1 (by k_asm) kN3 (by k_mem) (by k_mem) (by k_mem) (by k_mem) (by intro p hp; simp only [List.mem_cons, List.mem_append, hp, or_true])
    all_goals (rename Fr _ _ _ _ => kF1)
    all_goals (rename News _ _ _ _ => kN1)
    all_goals (rename WS.mk _ _ _ _ = _ => hw9)
    all_goals (have hR9 := hrow (by assumption))
    all_goals (have hp9 := hR9.pos)
    all_goals (refine' inner_while (lr0 := r.lr) (ws := r.ws) hw9 kF1 kN1 hi1 hR9.ln ?_)
    all_goals clear kF1 kN1
    all_goals (intro vi2 ci2 lr2 h2 tk2 hi2 hln2 hpop2 hll2 kF2 kN2)
    all_goals (have hfew := hR9.few)
    all_goals (walk_at "TOWHILE")
    all_goals (try dsimp only [TwPost])
    all_goals (rename News _ _ _ _ => kN3)
    all_goals first
      | (refine ksw_end (vi2.dropLast, ci2 + 1, lr2.tail) (by k_asm) kN3 (fun p hp => List.Mem.tail _ hp) ⟨by assumption, fun j hj => hln2 j (List.mem_of_mem_tail hj), by rw [List.length_tail]; omega⟩ (fun p h => nomatch h) (fun _ _ _ => rfl) ((pop_go (by assumption) (by assumption)).trans hpop2) (tail_lt (by assumption)))
      | ((try simp only [List.push_toArray] at kN3)
         refine' rd_end hok (by assumption) hw9 (by assumption) (by assumption) (by assumption) (by assumption) hx hP ha1 hl1 hne ?hpop hi2 ?hks ?hns ?eks ?ens ?eat ?hd rfl (by k_asm) kN3 (by k_mem) (by k_mem) (by k_mem) (by k_mem) (by k_mem) (by k_mem) (by k_mem) (by k_mem) (by k_mem) ?hbase ⟨ltN (by omega), ltN (by omega), ltN (by omega), ltN (by omega), ltN (by omega)⟩ (by assumption) (by assumption) (by assumption) ?tok ?hat ?hrest
         case hpop => first | exact pop_of_nil (by assumption) hpop2 | exact pop_of_stop (by assumption) (by assumption) hpop2
         case hks => first | exact ints_snoc hk1 _ _ | exact hk1
         case hns => first | exact strs_snoc hn1 _ _ | exact hn1
         case eks => first | exact nm_ks hp9 hw9 (by assumption) (nm_z ln1) | exact sy_ks hp9 hw9 (by assumption)
         case ens => first | exact nm_ns hp9 hw9 (by assumption) | exact sy_ns hp9 hw9 (by assumption)
         case eat => first | exact nm_at hp9 hw9 (by assumption) | exact sy_at hp9 hw9 (by assumption)
         case hd => first | exact lr_nil (by assumption) | exact rfl
         case hbase => (intro p hp; simp only [List.mem_cons, List.mem_append] at hp ⊢; rcases hp with h | h <;> simp only [h, true_or, or_true])
         case tok => first | exact TokAll.le hTA (by (try dsimp only); omega) | exact TokAll.snoc (TokAll.le hTA (by (try dsimp only); omega)) (TokOK.le (by assumption) (by (try dsimp only); omega))
         case hat => exact if_pos rfl
         case hrest => (intro y hy hc; have hc2 := hc; simp only [List.contains_cons, List.contains_nil, Bool.or_false, Bool.or_eq_false_iff, beq_eq_false_iff_ne, ne_eq] at hc2; simp only [hy, hc, hc2.1, hc2.2, if_false, Bool.false_eq_true]))
end
section
set_option maxHeartbeats 8000000 in
theorem ist_c {w : World} {k : Int} {t : Tok} {news : List (Addr × Obj)} : Fn w 164 1 8 [Value.int k t] news (Gives news fun _ => Value.bool (decide (k < 256))) := by
  intro mean mg mb dp un gd cn cs a ccd cl outer A₀ base h₀ La m s Q E B F X N T hk hd hu hret
  k_with_none
  w_top off
  refine wpAny_call ?_
  k_dflt cell_enter
  k_steps
  all_goals (refine gives_bool hret (by k_asm) (by k_asm) ?_; rfl)
set_option maxHeartbeats 8000000 in
theorem isn_c {w : World} {k : Int} {t : Tok} {news : List (Addr × Obj)} : Fn w 171 1 8 [Value.int k t] news (Gives news fun _ => Value.bool (decide (256 ≤ k))) := by
  intro mean mg mb dp un gd cn cs a ccd cl outer A₀ base h₀ La m s Q E B F X N T hk hd hu hret
  k_with_none
  w_top off
  refine wpAny_call ?_
  k_dflt cell_enter
  k_steps
  all_goals (refine gives_bool hret (by k_asm) (by k_asm) ?_; rfl)
set_option maxHeartbeats 8000000 in
theorem ise_c {w : World} {k : Int} {t : Tok} {news : List (Addr × Obj)} : Fn w 178 1 8 [Value.int k t] news (Gives news fun _ => Value.bool (decide (k = 0))) := by
  intro mean mg mb dp un gd cn cs a ccd cl outer A₀ base h₀ La m s Q E B F X N T hk hd hu hret
  k_with_none
  w_top off
  refine wpAny_call ?_
  k_dflt cell_enter
  k_steps
  all_goals (refine gives_bool hret (by k_asm) (by k_asm) ?_; rfl)
theorem dec_clash {p q : Prop} [Decidable p] [Decidable q] (h : (decide p != decide q) = true) (e : p ↔ q) : False := by
  have : decide p = decide q := by rw [decide_eq_decide]; exact e
  rw [this] at h; simp at h
theorem dec_clash' {p : Prop} [Decidable p] (h : (decide p != false) = true) (e : ¬ p) : False := by
  rw [decide_eq_false e] at h; cases h
set_option maxHeartbeats 8000000 in
theorem sorted_c {w : World} {l : Addr} {n : Nat} {vs : List Value} {ks : List Int} {news : List (Addr × Obj)} (hl : (l, listOf vs.toArray n) ∈ news) (hi : IntsAre vs ks) (hb : ∀ k ∈ ks, 0 ≤ k ∧ k ≠ 1) (hz : ks.length ≤ 1000) :
    Fn w 216 2 16 [Value.ref l] news (Gives news fun _ => Value.bool true) := by
  intro mean mg mb dp un gd cn cs a ccd cl outer A₀ base h₀ La m s Q E B F X N T hk hd hu hret
  k_with_none
  w_top off
  k_with "k_memK" => (assumption)
  k_with "call ref" => ((k_here; (with_reducible show wpAny _ _ (call (Value.ref 164) _) _ _ _); k_dflt (refine' ist_c ?qB ?qF ?qX ?qN ?qT ?qhk ?qhd ?qhu ?_; (case qF => k_asm); (case qN => k_asm); (case qB => k_asm); (case qX => k_asm); (case qT => k_asm); (case qhk => first | exact rfl | assumption); (case qhd => ktr_room); (case qhu => ktr_units)); intro t9 h9 tk9 F9 N9; (try dsimp only); (try k_fold)))
  k_with "call ref" => ((k_here; (with_reducible show wpAny _ _ (call (Value.ref 171) _) _ _ _); k_dflt (refine' isn_c ?qB ?qF ?qX ?qN ?qT ?qhk ?qhd ?qhu ?_; (case qF => k_asm); (case qN => k_asm); (case qB => k_asm); (case qX => k_asm); (case qT => k_asm); (case qhk => first | exact rfl | assumption); (case qhd => ktr_room); (case qhu => ktr_units)); intro t9 h9 tk9 F9 N9; (try dsimp only); (try k_fold)))
  k_with "call ref" => ((k_here; (with_reducible show wpAny _ _ (call (Value.ref 178) _) _ _ _); k_dflt (refine' ise_c ?qB ?qF ?qX ?qN ?qT ?qhk ?qhd ?qhu ?_; (case qF => k_asm); (case qN => k_asm); (case qB => k_asm); (case qX => k_asm); (case qT => k_asm); (case qhk => first | exact rfl | assumption); (case qhd => ktr_room); (case qhu => ktr_units)); intro t9 h9 tk9 F9 N9; (try dsimp only); (try k_fold)))
  refine wpAny_call ?_
  k_dflt cell_enter
  (k_with "pyIter ref" => k_dflt (k_search (fun (pre : List Int) => True)))
  k_steps
  all_goals first
    | (refine gives_bool hret (by k_asm) (by first | k_asm | exact fun p hp => (by assumption : News _ _ _ _) p (List.mem_append.mpr (.inl hp))) rfl)
    | (exfalso; (rename _ ∈ ks => hM9); (have hB9 := hb _ hM9); first | exact dec_clash (by assumption) (by omega) | exact dec_clash' (by assumption) (by omega))
end
section
/-! a form: «%» with a template of two «%s» and one «%%» -/
section
open Builtin Builtin.Str KPc
theorem span_go (p : Nat → Bool) : ∀ (L R acc : List Nat), (∀ c ∈ L, p c = true) → (R = [] ∨ ∃ d r, R = d :: r ∧ p d = false) → List.span.loop p (L ++ R) acc = (acc.reverse ++ L, R)
  | [], R, acc, _, hR => by
    rcases hR with rfl | ⟨d, r, rfl, hd⟩
    · simp [List.span.loop]
    · simp [List.span.loop, hd]
  | c :: L, R, acc, h, hR => by
    have hc := h c (.head _)
    rw [List.cons_append, List.span.loop, hc]
    simp only
    rw [span_go p L R (c :: acc) (fun d hd => h d (.tail _ hd)) hR, List.reverse_cons, List.append_assoc]; rfl
theorem span_to {L R : List Nat} (h : ∀ c ∈ L, c ≠ 37) (hR : R = [] ∨ ∃ r, R = 37 :: r) : (L ++ R).span (· != 37) = (L, R) := by
  refine span_go _ L R [] (fun c hc => by simpa using h c hc) ?_
  rcases hR with rfl | ⟨r, rfl⟩
  · exact .inl rfl
  · exact .inr ⟨37, r, rfl, rfl⟩
variable {M : Model} {A : Around} {E : Value → Shared → Prop} {s : Shared} {f : Nat → List Value × Writer × List Nat → Sem (ForInStep (List Value × Writer × List Nat))} {Q : List Value × Writer × List Nat → Shared → Prop}
/-- what the turns of the loop over a template must do -/
structure FormTurns (M : Model) (A : Around) (E : Value → Shared → Prop) (s : Shared) (n : Nat) (f : Nat → List Value × Writer × List Nat → Sem (ForInStep (List Value × Writer × List Nat))) : Prop where
  lit : ∀ (x : Nat) (p : List Value) (w : Writer) (T : PySem.Str) (N : Nat) (L R : List Nat) (Q' : ForInStep (List Value × Writer × List Nat) → Shared → Prop), Good w T N → N ≤ 1000000 → L ≠ [] → (∀ c ∈ L, c ≠ 37) → (R = [] ∨ ∃ r, R = 37 :: r) → L.length < n → (∀ o, Obj o (tx L) → Q' (.yield (p, w.add (tx L) o, R)) s) → wpAny M A (f x (p, w, L ++ R)) Q' E s
  pct : ∀ (x : Nat) (p : List Value) (w : Writer) (T : PySem.Str) (N : Nat) (R : List Nat) (Q' : ForInStep (List Value × Writer × List Nat) → Shared → Prop), Good w T N → N ≤ 1000000 → (∀ o, Obj o (tx [37]) → Q' (.yield (p, w.add (tx [37]) o, R)) s) → wpAny M A (f x (p, w, 37 :: 37 :: R)) Q' E s
  arg : ∀ (x : Nat) (p : List Value) (w : Writer) (T : PySem.Str) (N : Nat) (y : PySem.Str) (u : Tok) (R : List Nat) (Q' : ForInStep (List Value × Writer × List Nat) → Shared → Prop), Good w T N → N ≤ 1000000 → (∀ o, Obj o y → Q' (.yield (p, w.add y o, R)) s) → wpAny M A (f x (.str y u :: p, w, 37 :: 115 :: R)) Q' E s
  fin : ∀ (x : Nat) (p : List Value) (w : Writer) (T : PySem.Str) (N : Nat) (Q' : ForInStep (List Value × Writer × List Nat) → Shared → Prop), Good w T N → N ≤ 1000000 → Q' (.done (p, w, [])) s → wpAny M A (f x (p, w, [])) Q' E s
/-- the sum of what has been written and what is still to come -/
inductive Form : List (List Nat) → List Value → List Nat → List Nat → Nat → Prop
  | fin : Form [] [] [] [] 0
  | lit {L R ls p out k} : L ≠ [] → (∀ c ∈ L, c ≠ 37) → (R = [] ∨ ∃ r, R = 37 :: r) → Form ls p R out k → Form (L :: ls) p (L ++ R) (L ++ out) (k + 1)
  | pct {R ls p out k} : Form ls p R out k → Form ls p (37 :: 37 :: R) (37 :: out) (k + 1)
  | arg {y u R ls p out k} : Form ls p R out k → Form ls (.str y u :: p) (37 :: 115 :: R) (sg y ++ out) (k + 1)
theorem form_loop {n : Nat} (F : FormTurns M A E s n f) : ∀ {ls : List (List Nat)} {p : List Value} {r out : List Nat} {k : Nat} (_ : Form ls p r out k) {l : List Nat} {w : Writer} {T : PySem.Str} {N : Nat}, (∀ L ∈ ls, L.length < n) → k < l.length → Good w T N → N + out.length ≤ 1000000 →
    (∀ w' T' N', Good w' T' N' → N' ≤ 1000000 → sg T' = sg T ++ out → Q ([], w', []) s) → wpAny M A (forIn l (p, w, r) f) Q E s := by
  intro ls p r out k x
  induction x with
  | fin =>
    intro l w T N _ hk g hN h
    cases l with
    | nil => exact absurd hk (Nat.not_lt_zero _)
    | cons a l => exact KPc.turn (F.fin a _ w T N _ g (by simpa using hN) (h w T N g (by simpa using hN) (by simp)))
  | @lit L R ls p out k h1 h2 h3 x ih =>
    intro l w T N hl hk g hN h
    rw [List.length_append] at hN
    cases l with
    | nil => exact absurd hk (Nat.not_lt_zero _)
    | cons a l =>
      refine KPc.turn (F.lit a p w T N L R _ g (by omega) h1 h2 h3 (hl _ (.head _)) fun o ho => ?_)
      have g' := good_add g ho
      rw [tx_len] at g'
      refine ih (fun L' hL' => hl L' (.tail _ hL')) (by simpa using hk) g' (by omega) fun w' T' N' g2 hN' e => h w' T' N' g2 hN' ?_
      rw [e, sg_app, sg_tx, List.append_assoc]
  | @pct R ls p out k x ih =>
    intro l w T N hl hk g hN h
    rw [List.length_cons] at hN
    cases l with
    | nil => exact absurd hk (Nat.not_lt_zero _)
    | cons a l =>
      refine KPc.turn (F.pct a p w T N R _ g (by omega) fun o ho => ?_)
      have g' := good_add g ho
      rw [tx_len] at g'
      refine ih hl (by simpa using hk) g' (by simp only [List.length_cons, List.length_nil]; omega) fun w' T' N' g2 hN' e => h w' T' N' g2 hN' ?_
      rw [e, sg_app, sg_tx, List.append_assoc]; rfl
  | @arg y u R ls p out k x ih =>
    intro l w T N hl hk g hN h
    rw [List.length_append] at hN
    cases l with
    | nil => exact absurd hk (Nat.not_lt_zero _)
    | cons a l =>
      refine KPc.turn (F.arg a p w T N y u R _ g (by omega) fun o ho => ?_)
      have g' := good_add g ho
      rw [sg_len] at g'
      refine ih hl (by simpa using hk) g' (by omega) fun w' T' N' g2 hN' e => h w' T' N' g2 hN' ?_
      rw [e, sg_app, List.append_assoc]
end
section
open Builtin Builtin.Str KPc
theorem lits_short : ∀ {ls : List (List Nat)} {p : List Value} {r out : List Nat} {k : Nat}, Form ls p r out k → ∀ L ∈ ls, L.length ≤ r.length := by
  intro ls p r out k x
  induction x with
  | fin => intro L h; cases h
  | lit _ _ _ _ ih =>
    intro L h
    rw [List.length_append]
    rcases List.mem_cons.mp h with rfl | h
    · omega
    · have := ih L h; omega
  | pct _ ih => intro L h; have := ih L h; simp only [List.length_cons]; omega
  | arg _ ih => intro L h; have := ih L h; simp only [List.length_cons]; omega
set_option maxHeartbeats 4000000 in
theorem form_meets {X : PySem.Str} {t : Tok} {b : Addr} {ls : List (List Nat)} {its : List Value} {out : List Nat} {k : Nat} (x : Form ls its (sg X) out k) (hl : ∀ L ∈ ls, L.length < X.length) (hk : k < X.length) (ho : out.length ≤ 1000000) (hX : X.length ≤ 1000000) :
    Meets («str.__mod__» ⟨[.str X t, .ref b], []⟩) (fun _ R s => IsTup s.heap b its.toArray ∧ ∀ t' k, R (.ok (.ret (.str (tx out) t'))) { s with toks := k }) := by
  apply KPt.meets_tup
  intro prog w A s Q E kptH hret
  obtain ⟨kptO, kptG, kptC, kptN, kptD⟩ := kptH
  rw [KPt.entry_is_r]
  unfold Builtin.Str.percentFormat
  refine wpAny_bind (wpAny_isInstance (T := "tuple") ⟨kptO, kptG, kptC⟩ KPt.sub_tt ?_)
  refine wpAny_bind (KPt.asStr_ref kptG kptD ?_)
  refine wpAny_bind (KPt.fills_ref ⟨kptO, kptG, kptC⟩ ?_)
  intro mp
  kpc_if
  refine wpAny_bind (wpAny_seqItems kptG kptD ?_)
  refine wpAny_bind (wpAny_pure ?_)
  refine wpAny_bind ?_
  rw [KPc.range_list]
  refine KPc.start ?_
  intro w0 g0
  have er : its.toArray.toList = its := by simp
  rw [er]
  refine form_loop (n := X.length) ⟨?lit, ?pct, ?arg, ?fin⟩ x hl (by rw [List.length_range']; exact hk) g0 (by omega) fun w' T' N' g' hN' e => ?after
  case lit =>
    intro x p w T N L R Q' g hN h1 h2 h3 h4 h
    refine wpAny_ite (KPc.ite_no (KPc.short_good g (by omega)) ?_)
    dsimp (config := { zeta := false, zetaHave := false }) only
    refine wpAny_ite (KPc.ite_no (by cases L with | nil => exact absurd rfl h1 | cons a l => exact Bool.false_ne_true) ?_)
    rw [span_to h2 h3]
    dsimp (config := { zeta := false, zetaHave := false }) only
    refine wpAny_ite (KPc.ite_yes (by cases L with | nil => exact absurd rfl h1 | cons a l => rfl) ?_)
    exact wpAny_pure (h _ (KPc.obj_none (if_neg (by simp; omega))))
  case pct =>
    intro x p w T N R Q' g hN h
    have e1 : (37 :: 37 :: R).span (· != 37) = ([], 37 :: 37 :: R) := span_to (L := []) (by simp) (.inr ⟨_, rfl⟩)
    refine wpAny_ite (KPc.ite_no (KPc.short_good g (by omega)) ?_)
    dsimp (config := { zeta := false, zetaHave := false }) only
    kpc_if
    rw [e1]
    dsimp (config := { zeta := false, zetaHave := false }) only
    kpc_if
    kpc_if
    have e2 : PySem.Str.ofString "%" = tx [37] := by decide +kernel
    rw [e2]
    exact wpAny_pure (h _ (KPc.obj_none rfl))
  case arg =>
    intro x p w T N y u R Q' g hN h
    have e1 : (37 :: 115 :: R).span (· != 37) = ([], 37 :: 115 :: R) := span_to (L := []) (by simp) (.inr ⟨_, rfl⟩)
    refine wpAny_ite (KPc.ite_no (KPc.short_good g (by omega)) ?_)
    dsimp (config := { zeta := false, zetaHave := false }) only
    kpc_if
    rw [e1]
    dsimp (config := { zeta := false, zetaHave := false }) only
    kpc_if
    kpc_if
    refine wpAny_bind ?_
    refine wpAny_holding ?_
    kpc_if
    kpc_if
    refine wpAny_bind (wpAny_of_eq (KPc.strOf_str _ _) ?_)
    refine wpAny_bind (wpAny_of_eq (a := some _) rfl ?_)
    refine wpAny_pure ?_
    refine wpAny_pure ?_
    dsimp only
    have eb : (⟨y.cps.toList.toArray⟩ : PySem.Str) = y := tx_sg y
    rw [eb]
    refine h _ ?_
    cases R.isEmpty
    · exact KPc.obj_none rfl
    · exact KPc.obj_some rfl
  case fin =>
    intro x p w T N Q' g hN h
    refine wpAny_ite (KPc.ite_no (KPc.short_good g (by omega)) ?_)
    dsimp (config := { zeta := false, zetaHave := false }) only
    kpc_if
    exact wpAny_pure h
  case after =>
    dsimp (config := { zeta := false, zetaHave := false }) only
    kpc_if
    refine KPc.finish_ok g' (by omega) rfl fun t' k => ?_
    have : T' = tx out := by apply sg_inj; rw [e, sg_tx]; rfl
    rw [this]
    exact hret t' k
theorem form_mod {prog : Program} {w : World} {A : Around} {E : Value → Shared → Prop} {s : Shared} {X : PySem.Str} {t : Tok} {Q : Value → Shared → Prop} {b L : Addr} {h₀ : Heap} {news : List (Addr × Obj)} {n : Nat} {ls : List (List Nat)} {its : List Value} {out : List Nat} {k : Nat}
    (N : News h₀ L s.heap news) (hb : (b, ({ cls := .type "tuple", data := .seq its.toArray n } : PySem.Obj)) ∈ news) (x : Form ls its (sg X) out k) (hl : ∀ L ∈ ls, L.length < X.length) (hk : k < X.length) (ho : out.length ≤ 1000000) (hX : X.length ≤ 1000000)
    (h : ∀ t' k, Q (.str (tx out) t') { s with toks := k }) : wpAny (model prog w) A (binaryOp .Mod (.str X t) (.ref b)) Q E s :=
  KPt.mod_tuple N hb rfl (form_meets x hl hk ho hX) h
end
end
section
section
open Builtin
theorem entry_hasattr : entryFor table "hasattr" = some Builtin.«hasattr» := entryFor_of_fast (by kernel_rfl)
theorem kind_hasattr : builtinKind "hasattr" = none := by decide +kernel
theorem plain_hasattr : plainId "hasattr" = true := by decide +kernel
theorem args_hasattr2 (a b : Value) : argsOk "hasattr" ⟨[a, b], []⟩ := by unfold argsOk; kernel_rfl
theorem typeOf_sg : typeOf (.builtin "str.__getitem__") = pure (.type "wrapper_descriptor") := by kernel_rfl
theorem slot_wd_get : Slot "wrapper_descriptor" "__get__" "wrapper_descriptor.__get__" :=
  .of (owner := "wrapper_descriptor") (n := "__get__") (by rw [typeLookup_type, builtinLookup_eq_fast]; kernel_rfl) (by decide +kernel) (by decide +kernel) (by decide +kernel)
    (by first | exact .inl (by decide +kernel) | exact .inr (by decide +kernel)) (by rw [isSubtype_type]; kernel_rfl)
theorem lk_wd_set : typeLookup (.type "wrapper_descriptor") "__set__" = pure none := by rw [typeLookup_type, builtinLookup_eq_fast]; kernel_rfl
theorem lk_wd_delete : typeLookup (.type "wrapper_descriptor") "__delete__" = pure none := by rw [typeLookup_type, builtinLookup_eq_fast]; kernel_rfl
theorem entry_wd_get : entryFor table "wrapper_descriptor.__get__" = some Builtin.«wrapper_descriptor.__get__» := entryFor_of_tree (by kernel_rfl)
theorem args_wd_get (a b c : Value) : argsOk "wrapper_descriptor.__get__" ⟨[a, b, c], []⟩ := by unfold argsOk; kernel_rfl
theorem owner_sg : (".".intercalate ("str.__getitem__".cutAt '.').dropLast) = "str" := by
  have e0 : "str.__getitem__".cutAt '.' = ["str", "__getitem__"] := by first | rfl | decide +kernel
  rw [e0]; decide +kernel
theorem sub_sg : isSubtype (.type "str") (.type (".".intercalate ("str.__getitem__".cutAt '.').dropLast)) = pure true := by rw [owner_sg, isSubtype_type]; kernel_rfl
section
variable {prog : Program} {w : World} {A : Around} {E : Value → Shared → Prop} {h : Heap} {g : Array GenState} {d : Drawn} {t : Nat} {os : OsState} {x : PySem.Str} {u : Tok}
theorem sg_get {R : Result → Shared → Prop} (hq : ∀ o : PySem.Obj, R (.ok (.ret (.ref h.objs.size))) ⟨h.push o, g, d, t, os⟩) :
    codeAny (model prog w) A (.call (.builtin "wrapper_descriptor.__get__") ⟨[.builtin "str.__getitem__", .str x u, .type "str"], []⟩) R ⟨h, g, d, t, os⟩ := by
  have hT : (⟨h, g, d, t, os⟩ : Shared).TypeIs (.str x u) "str" := rfl
  have hT5 : (⟨h, g, d, t, os⟩ : Shared).TypeIs (.builtin "str.__getitem__") "wrapper_descriptor" := typeOf_sg
  have f9 := sub_sg
  refine codeAny_call_builtin slot_wd_get.plain entry_wd_get (slot_wd_get.check _ _ _ _ _ _ _ _ hT5 (args_wd_get _ _ _) ?_)
  repeat (any_goals (first | exact hq _ | assumption | wp_step))
theorem sg_entry {tk : Tok} {Q : Fin → Shared → Prop} (hq : ∀ o : PySem.Obj, Q (.done (.ret (.ref h.objs.size))) ⟨h.push o, g, d, t, os⟩) :
    wpAny (model prog w) A (Builtin.«object.__getattribute__» ⟨[.str x u, .str "__getitem__" tk], []⟩) Q E ⟨h, g, d, t, os⟩ := by
  have hT : (⟨h, g, d, t, os⟩ : Shared).TypeIs (.str x u) "str" := rfl
  have hT5 : (⟨h, g, d, t, os⟩ : Shared).TypeIs (.builtin "str.__getitem__") "wrapper_descriptor" := typeOf_sg
  have f4 : typeLookup (.type "str") "__getitem__" = pure (some (.builtin "str.__getitem__")) := F.slot_str_getitem.lookup
  have f5 := typeOf_sg
  have f6 := slot_wd_get.lookup
  have f7 := lk_wd_set
  have f8 := lk_wd_delete
  repeat (any_goals (first | assumption | wp_step))
  refine sg_get fun o => ?_
  repeat (any_goals (first | exact hq _ | assumption | wp_step))
theorem sg_call {tk : Tok} {R : Result → Shared → Prop} (hq : ∀ o : PySem.Obj, R (.ok (.ret (.ref h.objs.size))) ⟨h.push o, g, d, t, os⟩) :
    codeAny (model prog w) A (.call (.builtin "object.__getattribute__") ⟨[.str x u, .str "__getitem__" tk], []⟩) R ⟨h, g, d, t, os⟩ :=
  codeAny_call_builtin F.slot_str_getattribute.plain F.entry_object_getattribute (F.slot_str_getattribute.check _ _ _ _ _ _ _ _ (show (⟨h, g, d, t, os⟩ : Shared).TypeIs (.str x u) "str" from rfl) (F.args_object_getattribute_2 _ _) (sg_entry hq))
theorem sg_by {tk : Tok} {Q : Value → Shared → Prop} (hq : ∀ o : PySem.Obj, Q (.ref h.objs.size) ⟨h.push o, g, d, t, os⟩) : wpAny (model prog w) A (getAttrBy (.str x u) (.str "__getitem__" tk) false) Q E ⟨h, g, d, t, os⟩ := by
  have hT : (⟨h, g, d, t, os⟩ : Shared).TypeIs (.str x u) "str" := rfl
  have f2 := F.slot_str_getattribute.lookup
  have f3 := F.slot_str_getattribute.bind (.str x u)
  repeat (any_goals (first | assumption | wp_step))
  refine sg_call fun o => ?_
  repeat (any_goals (first | exact hq _ | assumption | wp_step))
end
variable {prog : Program} {w : World} {A : Around} {E : Value → Shared → Prop} {s : Shared} {x : PySem.Str} {t u : Tok} {Q : Value → Shared → Prop}
theorem hasattr_str (h : ∀ o : PySem.Obj, Q (.bool true) { s with heap := s.heap.push o }) : wpAny (model prog w) A (call (.builtin "hasattr") [.str x t, .str (PySem.Str.ofString "__getitem__") u]) Q E s := by
  refine Calls.call_function_entry kind_hasattr plain_hasattr entry_hasattr (args_hasattr2 _ _) ?_
  have l1 : typeLookup (.type "str") (PySem.Str.ofString "__getitem__") = pure (some (.builtin "str.__getitem__")) := F.slot_str_getitem.lookup
  have l2 : typeLookup (.type "str") (PySem.Str.ofString "__getattribute__") = pure (some (.builtin "object.__getattribute__")) := by rw [typeLookup_type, builtinLookup_eq_fast]; kernel_rfl
  unfold Builtin.«hasattr»
  refine wpAny_bind (wpAny_of_eq (a := [Value.str x t, Value.str (PySem.Str.ofString "__getitem__") u]) rfl ?_)
  refine wpAny_bind (wpAny_of_eq (a := ()) rfl ?_)
  refine wpAny_ite (KPc.ite_no Bool.false_ne_true ?_)
  refine wpAny_bind (wpAny_typeOf (typeIs_str s x t) ?_)
  refine wpAny_bind (wpAny_of_eq (a := some (PySem.Str.ofString "__getitem__")) rfl ?_)
  refine wpAny_bind (wpAny_of_eq l1 ?_)
  refine wpAny_bind (wpAny_of_eq l2 ?_)
  refine wpAny_ite (KPc.ite_no (by decide +kernel) ?_)
  refine wpAny_bind (wpAny_of_eq (a := 0) rfl ?_)
  refine wpAny_ite (KPc.ite_no Bool.false_ne_true ?_)
  refine wpAny_bind ?_
  unfold getAttrBy?
  obtain ⟨hp, g, d, tk, os⟩ := s
  repeat (any_goals (first | assumption | (with_reducible refine sg_by fun o => ?_) | wp_step))
  exact ⟨_, rfl, h _⟩
end
end
section
section
variable {prog : Program} {w : World} {A : Around} {E : Value → Shared → Prop} {s : Shared} {h₀ : Heap} {La l : Addr} {news : List (Addr × Obj)} {n : Nat} {Q : Value → Shared → Prop} {value slice : Expr} {u : Tok}
theorem item_two0 {v v' : Value} (N : News h₀ La s.heap news) (hb : (l, listOf #[v, v'] n) ∈ news) (h : Q v s)
    (hs : subscripted slice false (.ref l) (.int 0 u) = operate [.ref l, .int 0 u] (getItem (.ref l) (.int 0 u)) := by with_unfolding_all rfl) (hg : ∀ r, letTemporaryGo value (.ref l) r = pure () := by intro _; with_unfolding_all rfl) :
    wpAny (model prog w) A (subscriptTail value slice (.ref l) (.int 0 u)) Q E s :=
  PyProof.Rows.item_list (News.isList N hb) (by decide) (by decide) rfl h hs hg
theorem item_two1 {v v' : Value} (N : News h₀ La s.heap news) (hb : (l, listOf #[v, v'] n) ∈ news) (h : Q v' s)
    (hs : subscripted slice false (.ref l) (.int 1 u) = operate [.ref l, .int 1 u] (getItem (.ref l) (.int 1 u)) := by with_unfolding_all rfl) (hg : ∀ r, letTemporaryGo value (.ref l) r = pure () := by intro _; with_unfolding_all rfl) :
    wpAny (model prog w) A (subscriptTail value slice (.ref l) (.int 1 u)) Q E s :=
  PyProof.Rows.item_list (News.isList N hb) (by decide) (by decide) rfl h hs hg
end
section
variable {prog : Program} {w : World} {A : Around} {E : Value → Shared → Prop} {s : Shared} {h₀ : Heap} {La b : Addr} {m : PySem.Str → Option Value} {news : List (Addr × Obj)} {n : Nat} {Q : Value → Shared → Prop} {x p0 p1 : PySem.Str} {t u u1 u2 : Tok} {out : List Nat}
theorem hasattr_K (F : Fr h₀ La s.heap m) (N : News h₀ La s.heap news) (h : ∀ h', Fr h₀ La h' m → News h₀ La h' news → Q (.bool true) { s with heap := h' }) : wpAny (model prog w) A (call (.builtin "hasattr") [.str x t, .str (PySem.Str.ofString "__getitem__") u]) Q E s :=
  hasattr_str fun o => h _ (F.push o) (News.pushKeep N o)
/-- what «%» makes of a form and the quotations of two names -/
def FormIs (p0 p1 : PySem.Str) (out : List Nat) : Prop := ∀ u1 u2 : Tok, ∃ ls k, Form ls [.str (tx (qd (sg p1))) u1, .str (tx (qd (sg p0))) u2] (sg p0) out k ∧ (∀ L ∈ ls, L.length < p0.length) ∧ k < p0.length ∧ out.length ≤ 1000000 ∧ p0.length ≤ 1000000
theorem form_modK (hF : FormIs p0 p1 out) (N : News h₀ La s.heap news) (hb : (b, ({ cls := .type "tuple", data := .seq #[.str (tx (qd (sg p1))) u1, .str (tx (qd (sg p0))) u2] n } : PySem.Obj)) ∈ news)
    (h : ∀ t' k, Q (.str (tx out) t') { s with toks := k }) : wpAny (model prog w) A (binaryOp .Mod (.str p0 t) (.ref b)) Q E s := by
  obtain ⟨ls, k, x, h1, h2, h3, h4⟩ := hF u1 u2
  exact form_mod N hb x h1 h2 h3 h4 h
end
set_option maxHeartbeats 4000000 in
theorem deed_concat {w : World} {ln lp : Addr} {vn : List Value} {cn9 np : Nat} {p0 p1 : PySem.Str} {t t0 t1 : Tok} {news : List (Addr × Obj)} (hn : (ln, listOf vn.toArray cn9) ∈ news) (hp : (lp, listOf #[.str p0 t0, .str p1 t1] np) ∈ news) (h0 : p0.length ≤ 100000) (h1 : p1.length ≤ 100000) :
    Fn w 204 3 24 [.int 14 t, .ref ln, .ref lp] news (Gives news fun t => Value.str (p0 ++ p1) t) := by
  intro mean mg mb dp un gd cn cs a ccd cl outer A₀ base h₀ La m s Q E B F X N T hk hd hu hret
  k_with_none
  w_top off
  k_with "k_mem" => (assumption)
  k_with "k_enter" => (k_dflt (refine' code_def ?k1 ?k2 ?k3 ?k4 ?k5 ?kA ?kF ?kK ?k6 ?k7 ?k8 ?k9 ?kB ?_ ?c2 ?c3 ?c4 ?c5; (case kA => exact rfl); (case kF => exact rfl); (case kK => first | exact rfl | assumption); (case k1 => k_asm); (case k2 => k_asm); (case k3 => k_asm); (case k4 => k_asm); (case k5 => k_asm); (case k6 => k_is); (case k7 => k_is); (case k8 => ktr_room); (case k9 => exact BindsTo.of_eq rfl); (case c5 => decide); (case kB => exact locs rfl); (case c2 => exact rfl); (case c3 => exact rfl); (case c4 => exact rfl); k_whole))
  k_with "call ref" => ((k_here; (with_reducible show wpAny _ _ (call (Value.ref 171) _) _ _ _); k_dflt (refine' isn_c ?qB ?qF ?qX ?qN ?qT ?qhk ?qhd ?qhu ?_; (case qF => k_asm); (case qN => k_asm); (case qB => k_asm); (case qX => k_asm); (case qT => k_asm); (case qhk => first | exact rfl | assumption); (case qhd => ktr_room); (case qhu => ktr_units)); intro t9 h9 tk9 F9 N9; (try dsimp only); (try k_fold)))
  k_with "subscriptTail" => ((k_here; (with_reducible show wpAny _ _ (subscriptTail _ _ (Value.ref _) (Value.int 0 _)) _ _ _); k_dflt (refine' item_two0 ?qN ?qm ?_; (case qN => k_asm); (case qm => k_mem))))
  k_with "subscriptTail" => ((k_here; (with_reducible show wpAny _ _ (subscriptTail _ _ (Value.ref _) (Value.int 1 _)) _ _ _); k_dflt (refine' item_two1 ?qN ?qm ?_; (case qN => k_asm); (case qm => k_mem))))
  k_with "call builtin:hasattr" => ((k_here; k_dflt (refine' hasattr_K ?qF ?qN ?_; (case qF => k_asm); (case qN => k_asm)); intro h9 F9 N9; (try dsimp only); (try k_fold)))
  k_with "binaryOp Mod str ref" => ((k_here; (with_reducible show wpAny _ _ (binaryOp Operator.Mod (Value.str _ _) (Value.ref _)) _ _ _); (rename FormIs _ _ _ => hF9); k_dflt (refine' form_modK hF9 ?qN ?qb ?_; (case qN => k_asm); (case qb => k_mem)); intro t9 k9; (try dsimp only); (try k_fold)))
  k_with "call ref" => ((k_here; (with_reducible show wpAny _ _ (call (Value.ref 185) _) _ _ _); k_dflt (refine' quoted_c ?qa1 ?qB ?qF ?qX ?qN ?qT ?qhk ?qhd ?qhu ?_; (case qF => k_asm); (case qN => k_asm); (case qa1 => omega); (case qB => k_asm); (case qX => k_asm); (case qT => k_asm); (case qhk => first | exact rfl | assumption); (case qhd => ktr_room); (case qhu => ktr_units)); intro t9 h9 tk9 F9 N9; (try dsimp only); (try k_fold)))
  refine wpAny_call ?_
  k_dflt cell_enter
  k_steps
  all_goals first
    | (refine gives_str hret (by k_asm) (by k_asm) ?_; rfl)
set_option maxHeartbeats 4000000 in
theorem deed_mul {w : World} {ln lp : Addr} {vn : List Value} {cn9 np : Nat} {p0 p1 : PySem.Str} {t t0 t1 : Tok} {news : List (Addr × Obj)} (hn : (ln, listOf vn.toArray cn9) ∈ news) (hp : (lp, listOf #[.str p0 t0, .str p1 t1] np) ∈ news) (h0 : p0.length ≤ 100000) (h1 : p1.length ≤ 100000) (h2 : p1.length ≤ 3) :
    Fn w 204 3 24 [.int 16 t, .ref ln, .ref lp] news (Gives news fun t => Value.str (PySem.Txt.mul p0 (p1.length : Int)) t) := by
  intro mean mg mb dp un gd cn cs a ccd cl outer A₀ base h₀ La m s Q E B F X N T hk hd hu hret
  k_with_none
  w_top off
  k_with "k_mem" => (assumption)
  k_with "k_enter" => (k_dflt (refine' code_def ?k1 ?k2 ?k3 ?k4 ?k5 ?kA ?kF ?kK ?k6 ?k7 ?k8 ?k9 ?kB ?_ ?c2 ?c3 ?c4 ?c5; (case kA => exact rfl); (case kF => exact rfl); (case kK => first | exact rfl | assumption); (case k1 => k_asm); (case k2 => k_asm); (case k3 => k_asm); (case k4 => k_asm); (case k5 => k_asm); (case k6 => k_is); (case k7 => k_is); (case k8 => ktr_room); (case k9 => exact BindsTo.of_eq rfl); (case c5 => decide); (case kB => exact locs rfl); (case c2 => exact rfl); (case c3 => exact rfl); (case c4 => exact rfl); k_whole))
  k_with "call ref" => ((k_here; (with_reducible show wpAny _ _ (call (Value.ref 171) _) _ _ _); k_dflt (refine' isn_c ?qB ?qF ?qX ?qN ?qT ?qhk ?qhd ?qhu ?_; (case qF => k_asm); (case qN => k_asm); (case qB => k_asm); (case qX => k_asm); (case qT => k_asm); (case qhk => first | exact rfl | assumption); (case qhd => ktr_room); (case qhu => ktr_units)); intro t9 h9 tk9 F9 N9; (try dsimp only); (try k_fold)))
  k_with "subscriptTail" => ((k_here; (with_reducible show wpAny _ _ (subscriptTail _ _ (Value.ref _) (Value.int 0 _)) _ _ _); k_dflt (refine' item_two0 ?qN ?qm ?_; (case qN => k_asm); (case qm => k_mem))))
  k_with "subscriptTail" => ((k_here; (with_reducible show wpAny _ _ (subscriptTail _ _ (Value.ref _) (Value.int 1 _)) _ _ _); k_dflt (refine' item_two1 ?qN ?qm ?_; (case qN => k_asm); (case qm => k_mem))))
  k_with "call builtin:hasattr" => ((k_here; k_dflt (refine' hasattr_K ?qF ?qN ?_; (case qF => k_asm); (case qN => k_asm)); intro h9 F9 N9; (try dsimp only); (try k_fold)))
  k_with "binaryOp Mod str ref" => ((k_here; (with_reducible show wpAny _ _ (binaryOp Operator.Mod (Value.str _ _) (Value.ref _)) _ _ _); (rename FormIs _ _ _ => hF9); k_dflt (refine' form_modK hF9 ?qN ?qb ?_; (case qN => k_asm); (case qb => k_mem)); intro t9 k9; (try dsimp only); (try k_fold)))
  k_with "call ref" => ((k_here; (with_reducible show wpAny _ _ (call (Value.ref 185) _) _ _ _); k_dflt (refine' quoted_c ?qa1 ?qB ?qF ?qX ?qN ?qT ?qhk ?qhd ?qhu ?_; (case qF => k_asm); (case qN => k_asm); (case qa1 => omega); (case qB => k_asm); (case qX => k_asm); (case qT => k_asm); (case qhk => first | exact rfl | assumption); (case qhd => ktr_room); (case qhu => ktr_units)); intro t9 h9 tk9 F9 N9; (try dsimp only); (try k_fold)))
  refine wpAny_call ?_
  k_dflt cell_enter
  k_steps
  all_goals first
    | (refine gives_str hret (by k_asm) (by k_asm) ?_; rfl)
set_option maxHeartbeats 4000000 in
theorem deed_contains {w : World} {ln lp : Addr} {vn : List Value} {cn9 np : Nat} {p0 p1 : PySem.Str} {t t0 t1 : Tok} {news : List (Addr × Obj)} (hn : (ln, listOf vn.toArray cn9) ∈ news) (hp : (lp, listOf #[.str p0 t0, .str p1 t1] np) ∈ news) (h0 : p0.length ≤ 100000) (h1 : p1.length ≤ 100000) :
    Fn w 204 3 24 [.int 21 t, .ref ln, .ref lp] news (Gives news fun t => Value.bool !(Builtin.Str.occurrences p0 p1 0 p0.length 1).isEmpty) := by
  intro mean mg mb dp un gd cn cs a ccd cl outer A₀ base h₀ La m s Q E B F X N T hk hd hu hret
  k_with_none
  w_top off
  k_with "k_mem" => (assumption)
  k_with "k_enter" => (k_dflt (refine' code_def ?k1 ?k2 ?k3 ?k4 ?k5 ?kA ?kF ?kK ?k6 ?k7 ?k8 ?k9 ?kB ?_ ?c2 ?c3 ?c4 ?c5; (case kA => exact rfl); (case kF => exact rfl); (case kK => first | exact rfl | assumption); (case k1 => k_asm); (case k2 => k_asm); (case k3 => k_asm); (case k4 => k_asm); (case k5 => k_asm); (case k6 => k_is); (case k7 => k_is); (case k8 => ktr_room); (case k9 => exact BindsTo.of_eq rfl); (case c5 => decide); (case kB => exact locs rfl); (case c2 => exact rfl); (case c3 => exact rfl); (case c4 => exact rfl); k_whole))
  k_with "call ref" => ((k_here; (with_reducible show wpAny _ _ (call (Value.ref 171) _) _ _ _); k_dflt (refine' isn_c ?qB ?qF ?qX ?qN ?qT ?qhk ?qhd ?qhu ?_; (case qF => k_asm); (case qN => k_asm); (case qB => k_asm); (case qX => k_asm); (case qT => k_asm); (case qhk => first | exact rfl | assumption); (case qhd => ktr_room); (case qhu => ktr_units)); intro t9 h9 tk9 F9 N9; (try dsimp only); (try k_fold)))
  k_with "subscriptTail" => ((k_here; (with_reducible show wpAny _ _ (subscriptTail _ _ (Value.ref _) (Value.int 0 _)) _ _ _); k_dflt (refine' item_two0 ?qN ?qm ?_; (case qN => k_asm); (case qm => k_mem))))
  k_with "subscriptTail" => ((k_here; (with_reducible show wpAny _ _ (subscriptTail _ _ (Value.ref _) (Value.int 1 _)) _ _ _); k_dflt (refine' item_two1 ?qN ?qm ?_; (case qN => k_asm); (case qm => k_mem))))
  k_with "call builtin:hasattr" => ((k_here; k_dflt (refine' hasattr_K ?qF ?qN ?_; (case qF => k_asm); (case qN => k_asm)); intro h9 F9 N9; (try dsimp only); (try k_fold)))
  k_with "binaryOp Mod str ref" => ((k_here; (with_reducible show wpAny _ _ (binaryOp Operator.Mod (Value.str _ _) (Value.ref _)) _ _ _); (rename FormIs _ _ _ => hF9); k_dflt (refine' form_modK hF9 ?qN ?qb ?_; (case qN => k_asm); (case qb => k_mem)); intro t9 k9; (try dsimp only); (try k_fold)))
  k_with "call ref" => ((k_here; (with_reducible show wpAny _ _ (call (Value.ref 185) _) _ _ _); k_dflt (refine' quoted_c ?qa1 ?qB ?qF ?qX ?qN ?qT ?qhk ?qhd ?qhu ?_; (case qF => k_asm); (case qN => k_asm); (case qa1 => omega); (case qB => k_asm); (case qX => k_asm); (case qT => k_asm); (case qhk => first | exact rfl | assumption); (case qhd => ktr_room); (case qhu => ktr_units)); intro t9 h9 tk9 F9 N9; (try dsimp only); (try k_fold)))
  refine wpAny_call ?_
  k_dflt cell_enter
  k_steps
  all_goals first
    | (refine gives_bool hret (by k_asm) (by k_asm) ?_; rfl)
set_option maxHeartbeats 4000000 in
theorem deed_mod {w : World} {ln lp : Addr} {vn : List Value} {cn9 np : Nat} {p0 p1 : PySem.Str} {t t0 t1 : Tok} {news : List (Addr × Obj)} (hn : (ln, listOf vn.toArray cn9) ∈ news) (hp : (lp, listOf #[.str p0 t0, .str p1 t1] np) ∈ news) (h0 : p0.length ≤ 100000) (h1 : p1.length ≤ 100000) {out : List Nat} (hF : FormIs p0 p1 out) :
    Fn w 204 3 24 [.int 24 t, .ref ln, .ref lp] news (Gives news fun t => Value.str (tx out) t) := by
  intro mean mg mb dp un gd cn cs a ccd cl outer A₀ base h₀ La m s Q E B F X N T hk hd hu hret
  k_with_none
  w_top off
  k_with "k_mem" => (assumption)
  k_with "k_enter" => (k_dflt (refine' code_def ?k1 ?k2 ?k3 ?k4 ?k5 ?kA ?kF ?kK ?k6 ?k7 ?k8 ?k9 ?kB ?_ ?c2 ?c3 ?c4 ?c5; (case kA => exact rfl); (case kF => exact rfl); (case kK => first | exact rfl | assumption); (case k1 => k_asm); (case k2 => k_asm); (case k3 => k_asm); (case k4 => k_asm); (case k5 => k_asm); (case k6 => k_is); (case k7 => k_is); (case k8 => ktr_room); (case k9 => exact BindsTo.of_eq rfl); (case c5 => decide); (case kB => exact locs rfl); (case c2 => exact rfl); (case c3 => exact rfl); (case c4 => exact rfl); k_whole))
  k_with "call ref" => ((k_here; (with_reducible show wpAny _ _ (call (Value.ref 171) _) _ _ _); k_dflt (refine' isn_c ?qB ?qF ?qX ?qN ?qT ?qhk ?qhd ?qhu ?_; (case qF => k_asm); (case qN => k_asm); (case qB => k_asm); (case qX => k_asm); (case qT => k_asm); (case qhk => first | exact rfl | assumption); (case qhd => ktr_room); (case qhu => ktr_units)); intro t9 h9 tk9 F9 N9; (try dsimp only); (try k_fold)))
  k_with "subscriptTail" => ((k_here; (with_reducible show wpAny _ _ (subscriptTail _ _ (Value.ref _) (Value.int 0 _)) _ _ _); k_dflt (refine' item_two0 ?qN ?qm ?_; (case qN => k_asm); (case qm => k_mem))))
  k_with "subscriptTail" => ((k_here; (with_reducible show wpAny _ _ (subscriptTail _ _ (Value.ref _) (Value.int 1 _)) _ _ _); k_dflt (refine' item_two1 ?qN ?qm ?_; (case qN => k_asm); (case qm => k_mem))))
  k_with "call builtin:hasattr" => ((k_here; k_dflt (refine' hasattr_K ?qF ?qN ?_; (case qF => k_asm); (case qN => k_asm)); intro h9 F9 N9; (try dsimp only); (try k_fold)))
  k_with "binaryOp Mod str ref" => ((k_here; (with_reducible show wpAny _ _ (binaryOp Operator.Mod (Value.str _ _) (Value.ref _)) _ _ _); (rename FormIs _ _ _ => hF9); k_dflt (refine' form_modK hF9 ?qN ?qb ?_; (case qN => k_asm); (case qb => k_mem)); intro t9 k9; (try dsimp only); (try k_fold)))
  k_with "call ref" => ((k_here; (with_reducible show wpAny _ _ (call (Value.ref 185) _) _ _ _); k_dflt (refine' quoted_c ?qa1 ?qB ?qF ?qX ?qN ?qT ?qhk ?qhd ?qhu ?_; (case qF => k_asm); (case qN => k_asm); (case qa1 => omega); (case qB => k_asm); (case qX => k_asm); (case qT => k_asm); (case qhk => first | exact rfl | assumption); (case qhd => ktr_room); (case qhu => ktr_units)); intro t9 h9 tk9 F9 N9; (try dsimp only); (try k_fold)))
  refine wpAny_call ?_
  k_dflt cell_enter
  k_steps
  all_goals first
    | (refine gives_str hret (by k_asm) (by first | k_asm | exact fun p hp => (by assumption : News _ _ _ _) p (.tail _ hp)) ?_; rfl)
end
section
theorem booked_of {h : Heap} {w : World} (X : (hd.heap_39 w.params).In h) : NoneBooked h :=
  ⟨_, .of_isNs (isNs_of_in (N := 2) X (by kernel_rfl)), nsMap_none_of_in (N := 2) X (by kernel_rfl) (by kernel_rfl)⟩
/-- how many signs of the one text are the other -/
def cntOf (a b : List Nat) : Int := ((a.filter fun c => decide ([c] = b)).length : Int)
theorem cntOf_snoc (a b : List Nat) (c : Nat) : cntOf (a ++ [c]) b = cntOf a b + if [c] = b then 1 else 0 := by
  unfold cntOf; rw [List.filter_append, List.length_append]
  by_cases h : [c] = b
  · rw [if_pos h, List.filter_cons_of_pos (by simpa using h)]; simp
  · rw [if_neg h, List.filter_cons_of_neg (by simpa using h)]; simp
/-- the same, where the text's mark must be a real one -/
abbrev GivesM (t1 : Tok) (news : List (Addr × Obj)) (R : Tok → Value) (h₀ : Heap) (La : Addr) (m : PySem.Str → Option Value) (s : Shared) (Q _E : Value → Shared → Prop) : Prop :=
  TokOK s.toks t1 ∧ ∀ (t : Tok) (h' : Heap) (tk' : Nat), Fr h₀ La h' m → News h₀ La h' news → Q (R t) { s with heap := h', toks := tk' }
theorem gives_intC {h₀ : Heap} {La : Addr} {m : PySem.Str → Option Value} {news : List (Addr × Obj)} {s : Shared} {Q : Value → Shared → Prop} {x y : Int} {t : Tok} {h' : Heap} {tk' : Nat}
    (hret : ∀ (t : Tok) (h' : Heap) (tk' : Nat), Fr h₀ La h' m → News h₀ La h' news → Q (.int x t) { s with heap := h', toks := tk' }) (F : Fr h₀ La h' m) (N : News h₀ La h' news) (e : y = x) : Q (.int y t) { s with heap := h', toks := tk' } := by
  subst e; exact hret t h' tk' F N
def CtJ (p0 p1 : PySem.Str) (t1 : Tok) (i : Nat) (m : PySem.Str → Option Value) : Prop :=
  ∃ t, m (PySem.Str.ofString "count") = some (.int (cntOf ((sg p0).take i) (sg p1)) t) ∧ m (PySem.Str.ofString "b") = some (.str p1 t1)
theorem ct_yes {x y : PySem.Str} {i c : Nat} (hc : x.cps[i]? = some c) (h : (⟨#[c]⟩ : PySem.Str) = y) : cntOf ((sg x).take (i + 1)) (sg y) = cntOf ((sg x).take i) (sg y) + 1 := by
  have hc' : (sg x)[i]? = some c := by simpa using hc
  have e : (sg x).take (i + 1) = (sg x).take i ++ [c] := by rw [List.take_add_one, hc']; rfl
  rw [e, cntOf_snoc, if_pos (by rw [← h])]
theorem ct_no {x y : PySem.Str} {i c : Nat} (hc : x.cps[i]? = some c) (h : ((⟨#[c]⟩ : PySem.Str) == y) = false) : cntOf ((sg x).take (i + 1)) (sg y) = cntOf ((sg x).take i) (sg y) := by
  have hc' : (sg x)[i]? = some c := by simpa using hc
  have e : (sg x).take (i + 1) = (sg x).take i ++ [c] := by rw [List.take_add_one, hc']; rfl
  have hn : ¬ [c] = sg y := fun q => by
    have : (⟨#[c]⟩ : PySem.Str) = y := sg_inj q
    rw [this] at h; simp at h
  rw [e, cntOf_snoc, if_neg hn, Int.add_zero]
theorem ct_end {p0 p1 : PySem.Str} {t1 t : Tok} {i : Nat} {m : PySem.Str → Option Value} {z : Int} (h1 : m (PySem.Str.ofString "count") = some (.int z t)) (h2 : m (PySem.Str.ofString "b") = some (.str p1 t1)) (h3 : cntOf ((sg p0).take (i + 1)) (sg p1) = z) : CtJ p0 p1 t1 (i + 1) m := ⟨t, by rw [h3]; exact h1, h2⟩
theorem put_known {m : PySem.Str → Option Value} {x : PySem.Str} {v : Value} (h : m x = some v) : m = fun y => if y = x then some v else m y := by
  funext y
  by_cases e : y = x
  · rw [if_pos e, e]; exact h
  · rw [if_neg e]
set_option maxHeartbeats 4000000 in
theorem count_c {w : World} {p0 p1 : PySem.Str} {t0 t1 : Tok} {news : List (Addr × Obj)} (h0 : p0.length ≤ 100000) : Fn w 88 1 16 [.str p0 t0, .str p1 t1] news (GivesM t1 news fun t => Value.int (cntOf (sg p0) (sg p1)) t) := by
  intro mean mg mb dp un gd cn cs a ccd cl outer A₀ base h₀ La m s Q E B F X N T hk hd hu hret
  k_with_none
  w_top off
  k_with "execs cons" => ((k_here; with_reducible refine execs_tok ?_))
  k_with "execs nil" => ((k_here; with_reducible refine wpAny_execs_nil ?_))
  k_with "compareOp Is str str" => ((k_here; (with_reducible show wpAny _ _ (compareOp CmpOp.Is (Value.str _ _) (Value.str _ _)) _ _ _); k_dflt (refine' is_tok (n := 0) ?qa ?qb ?qc ?qd ?_; (case qa => omega); (case qb => omega); (case qc => omega); (case qd => exact booked_of (Frag.In.keeps (by k_asm) (Fr.keep (by k_asm))))); intro b9 hb9; (try dsimp only); (try k_fold)))
  k_with "LEI" => ((with_reducible refine toks_intro ?_; intro hT9; (try dsimp only at hT9); (try dsimp only)))
  k_with "TOFOR" => ((repeat' (first | walk_at "LEI" | (k_unfold; (try dsimp only)) | ((fail_if_success (with_reducible show wpAny _ _ (exec (.For _ _ _ _ _) _) _ _ _)); walk1) | ((fail_if_success (with_reducible show wpAny _ _ (exec (.For _ _ _ _ _) _) _ _ _)); dsimp only; walk1))))
  obtain ⟨ht1, hret⟩ := hret
  refine wpAny_call ?_
  k_dflt cell_enter
  walk_at "TOFOR"
  rename Fr _ _ _ _ => kF
  rename News _ _ _ _ => kN
  have kB : NoneBooked _ := booked_of (Frag.In.keeps (by k_asm) (Fr.keep kF))
  have hT1 := ht1.1
  have hT2 := ht1.2
  refine' for_signs (n0 := s.toks) (xt := p0) (t := t0) (CtJ p0 p1 t1) rfl rfl rfl (fun _ => rfl) (by passes_own) ?hit kF kN ?hj (by (try dsimp only); omega) ?turn ?done
  case hj =>
    refine' ⟨_, ?hj1, ?hj2⟩
    case hj1 =>
      rw [show cntOf ((sg p0).take 0) (sg p1) = 0 from rfl]
      exact if_pos rfl
    case hj2 => rfl
  case hit =>
    intro Q' h
    k_dflt (refine nameX_L kF ?_ h)
    rfl
  case turn =>
    clear kF kN kB
    intro i c u m₁ h tk own hc hu1 hu2 hJ hoff kF kN
    obtain ⟨ti, hcount, hbm⟩ := hJ
    have hne : u ≠ t1 := by omega
    have hu0 : u ≠ 0 := by omega
    have e : (fun y => if y = PySem.Str.ofString "i" then some (Value.str ⟨#[c]⟩ u) else if y = PySem.Str.ofString "count" then some (.int (cntOf ((sg p0).take i) (sg p1)) ti) else if y = PySem.Str.ofString "b" then some (.str p1 t1) else m₁ y) = (fun y => if y = PySem.Str.ofString "i" then some (Value.str ⟨#[c]⟩ u) else m₁ y) := by
        funext y
        by_cases h1 : y = PySem.Str.ofString "i"
        · rw [if_pos h1, if_pos h1]
        · rw [if_neg h1, if_neg h1]
          by_cases h2 : y = PySem.Str.ofString "count"
          · rw [if_pos h2, h2]; exact hcount.symm
          · rw [if_neg h2]
            by_cases h3 : y = PySem.Str.ofString "b"
            · rw [if_pos h3, h3]; exact hbm.symm
            · rw [if_neg h3]
    rw [← e] at kF
    clear e
    walk_at "TOFOR"
    all_goals dsimp only [SgPost]
    all_goals (refine' ⟨_, _, _, _, rfl, by k_asm, by k_asm, fun p hp => List.mem_append.mpr (.inl hp), fun p hp => List.mem_append.mpr (.inr hp), ct_end (i := i) ?_ ?_ ?_⟩)
    all_goals first
      | rfl
      | exact ct_yes hc (by first | exact eq_of_beq (by assumption) | exact (by assumption : _ = true → _) (by assumption))
      | exact ct_no hc (by assumption)
      | exact (Int.add_zero _).symm
      | skip
  case done =>
    clear kF kN kB
    intro h tk m₁ hJ kF kN
    obtain ⟨ti, hcount, hbm⟩ := hJ
    rw [show (sg p0).take p0.cps.size = sg p0 from List.take_of_length_le (by rw [← sg_len]; exact Nat.le_refl _)] at hcount
    rw [put_known hcount] at kF
    walk_at "TOFOR"
    all_goals (refine gives_intC hret (by k_asm) (by k_asm) ?_; rfl)
end
section
set_option maxHeartbeats 4000000 in
theorem deed_count {w : World} {ln lp : Addr} {vn : List Value} {cn9 np : Nat} {p0 p1 : PySem.Str} {t t0 t1 : Tok} {news : List (Addr × Obj)} (hn : (ln, listOf vn.toArray cn9) ∈ news) (hp : (lp, listOf #[.str p0 t0, .str p1 t1] np) ∈ news) (h0 : p0.length ≤ 100000) :
    Fn w 204 3 24 [.int 49 t, .ref ln, .ref lp] news (GivesM t1 news fun t => Value.int (cntOf (sg p0) (sg p1)) t) := by
  intro mean mg mb dp un gd cn cs a ccd cl outer A₀ base h₀ La m s Q E B F X N T hk hd hu hret
  k_with_none
  w_top off
  k_with "k_mem" => (assumption)
  k_with "k_enter" => (k_dflt (refine' code_def ?k1 ?k2 ?k3 ?k4 ?k5 ?kA ?kF ?kK ?k6 ?k7 ?k8 ?k9 ?kB ?_ ?c2 ?c3 ?c4 ?c5; (case kA => exact rfl); (case kF => exact rfl); (case kK => first | exact rfl | assumption); (case k1 => k_asm); (case k2 => k_asm); (case k3 => k_asm); (case k4 => k_asm); (case k5 => k_asm); (case k6 => k_is); (case k7 => k_is); (case k8 => ktr_room); (case k9 => exact BindsTo.of_eq rfl); (case c5 => decide); (case kB => exact locs rfl); (case c2 => exact rfl); (case c3 => exact rfl); (case c4 => exact rfl); k_whole))
  k_with "call ref" => ((k_here; (with_reducible show wpAny _ _ (call (Value.ref 171) _) _ _ _); k_dflt (refine' isn_c ?qB ?qF ?qX ?qN ?qT ?qhk ?qhd ?qhu ?_; (case qF => k_asm); (case qN => k_asm); (case qB => k_asm); (case qX => k_asm); (case qT => k_asm); (case qhk => first | exact rfl | assumption); (case qhd => ktr_room); (case qhu => ktr_units)); intro t9 h9 tk9 F9 N9; (try dsimp only); (try k_fold)))
  k_with "subscriptTail" => ((k_here; (with_reducible show wpAny _ _ (subscriptTail _ _ (Value.ref _) (Value.int 0 _)) _ _ _); k_dflt (refine' item_two0 ?qN ?qm ?_; (case qN => k_asm); (case qm => k_mem))))
  k_with "subscriptTail" => ((k_here; (with_reducible show wpAny _ _ (subscriptTail _ _ (Value.ref _) (Value.int 1 _)) _ _ _); k_dflt (refine' item_two1 ?qN ?qm ?_; (case qN => k_asm); (case qm => k_mem))))
  k_with "execs cons" => ((k_here; with_reducible refine execs_tok ?_))
  k_with "execs nil" => ((k_here; with_reducible refine wpAny_execs_nil ?_))
  k_with "LEI" => ((with_reducible refine toks_intro ?_; intro hT9; (try dsimp only at hT9); (try dsimp only)))
  k_with "STEPS" => ((repeat' (first | walk_at "LEI" | (k_unfold; (try dsimp only)) | walk1 | (dsimp only; walk1))))
  k_with "call ref" => ((k_here; (with_reducible show wpAny _ _ (call (Value.ref 88) _) _ _ _); k_dflt (refine' count_c ?qa1 ?qB ?qF ?qX ?qN ?qT ?qhk ?qhd ?qhu ⟨?qtok, ?_⟩; (case qF => k_asm); (case qN => k_asm); (case qa1 => omega); (case qB => k_asm); (case qX => k_asm); (case qT => k_asm); (case qhk => first | exact rfl | assumption); (case qhd => ktr_room); (case qhu => ktr_units); (case qtok => (refine ⟨?_, ?_⟩ <;> (try dsimp only) <;> omega))); intro t9 h9 tk9 F9 N9; (try dsimp only); (try k_fold)))
  obtain ⟨⟨hT1, hT2⟩, hret⟩ := hret
  refine wpAny_call ?_
  k_dflt cell_enter
  walk_at "STEPS"
  all_goals first
    | (refine gives_intC hret (by k_asm) (by k_asm) ?_; rfl)
end
section
section
variable {prog : Program} {w : World} {A : Around} {E : Value → Shared → Prop} {s : Shared} {h₀ : Heap} {La l : Addr} {news : List (Addr × Obj)} {n : Nat} {Q : Value → Shared → Prop} {value slice : Expr} {u : Tok}
theorem item_known {its : Array Value} {k : Int} {v : Value} (N : News h₀ La s.heap news) (hb : (l, listOf its n) ∈ news) (h0 : 0 ≤ k) (h1 : k < 100) (hx : its[k.toNat]? = some v) (h : Q v s)
    (hs : subscripted slice false (.ref l) (.int k u) = operate [.ref l, .int k u] (getItem (.ref l) (.int k u)) := by with_unfolding_all rfl) (hg : ∀ r, letTemporaryGo value (.ref l) r = pure () := by intro _; with_unfolding_all rfl) :
    wpAny (model prog w) A (subscriptTail value slice (.ref l) (.int k u)) Q E s :=
  PyProof.Rows.item_list (News.isList N hb) h0 (by omega) hx h hs hg
end
set_option maxHeartbeats 4000000 in
theorem deed_name {w : World} {ln lp : Addr} {its parts : Array Value} {cn9 np : Nat} {k : Int} {v : Value} {t : Tok} {news : List (Addr × Obj)} (hn : (ln, listOf its cn9) ∈ news) (hk0 : 256 ≤ k) (hk1 : k < 300) (hv : its[(k - 256).toNat]? = some v) :
    Fn w 204 2 16 [.int k t, .ref ln, .ref lp] news (Gives news fun _ => v) := by
  intro mean mg mb dp un gd cn cs a ccd cl outer A₀ base h₀ La m s Q E B F X N T hk hd hu hret
  k_with_none
  w_top off
  k_with "k_mem" => (assumption)
  k_with "k_enter" => (k_dflt (refine' code_def ?k1 ?k2 ?k3 ?k4 ?k5 ?kA ?kF ?kK ?k6 ?k7 ?k8 ?k9 ?kB ?_ ?c2 ?c3 ?c4 ?c5; (case kA => exact rfl); (case kF => exact rfl); (case kK => first | exact rfl | assumption); (case k1 => k_asm); (case k2 => k_asm); (case k3 => k_asm); (case k4 => k_asm); (case k5 => k_asm); (case k6 => k_is); (case k7 => k_is); (case k8 => ktr_room); (case k9 => exact BindsTo.of_eq rfl); (case c5 => decide); (case kB => exact locs rfl); (case c2 => exact rfl); (case c3 => exact rfl); (case c4 => exact rfl); k_whole))
  k_with "call ref" => ((k_here; (with_reducible show wpAny _ _ (call (Value.ref 171) _) _ _ _); k_dflt (refine' isn_c ?qB ?qF ?qX ?qN ?qT ?qhk ?qhd ?qhu ?_; (case qF => k_asm); (case qN => k_asm); (case qB => k_asm); (case qX => k_asm); (case qT => k_asm); (case qhk => first | exact rfl | assumption); (case qhd => ktr_room); (case qhu => ktr_units)); intro t9 h9 tk9 F9 N9; (try dsimp only); (try k_fold)))
  k_with "subscriptTail" => ((k_here; (with_reducible show wpAny _ _ (subscriptTail _ _ (Value.ref _) (Value.int (_ - _) _)) _ _ _); k_dflt (refine' item_known ?qN ?qm ?qa ?qb ?qc ?_; (case qN => k_asm); (case qm => k_mem); (case qa => omega); (case qb => omega); (case qc => assumption))))
  refine wpAny_call ?_
  k_dflt cell_enter
  k_steps
  all_goals first
    | exact hret 0 _ _ (by k_asm) (by k_asm)
    | (exfalso; omega)
end
section
theorem item_ints {prog : Program} {w : World} {A : Around} {E : Value → Shared → Prop} {s : Shared} {h₀ : Heap} {La l : Addr} {news : List (Addr × Obj)} {n : Nat} {Q : Value → Shared → Prop} {value slice : Expr} {u : Tok} {vs : List Value} {ks : List Int} {k : Int} (N : News h₀ La s.heap news) (hb : (l, listOf vs.toArray n) ∈ news) (hi : IntsAre vs ks) (h0 : 0 ≤ k) (h1 : k < ks.length) (hz : ks.length ≤ 100) (h : ∀ t, Q (.int (ks.getD k.toNat 0) t) s)
    (hs : subscripted slice false (.ref l) (.int k u) = operate [.ref l, .int k u] (getItem (.ref l) (.int k u)) := by with_unfolding_all rfl) (hg : ∀ r, letTemporaryGo value (.ref l) r = pure () := by intro _; with_unfolding_all rfl) :
    wpAny (model prog w) A (subscriptTail value slice (.ref l) (.int k u)) Q E s := by
  have hlt : k.toNat < vs.length := by rw [hi.length]; omega
  obtain ⟨t, ht⟩ := hi.int_at k.toNat vs[k.toNat] (List.getElem?_eq_getElem hlt)
  exact PyProof.Rows.item_list (News.isList N hb) h0 (by omega) (by rw [List.getElem?_toArray, List.getElem?_eq_getElem hlt, ht]) (h t) hs hg
theorem deed_nameL {w : World} {ln lp : Addr} {vs : List Value} {cn9 : Nat} {k : Int} {v : Value} {t : Tok} {news : List (Addr × Obj)} (hn : (ln, listOf vs.toArray cn9) ∈ news) (hk0 : 256 ≤ k) (hk1 : k < 300) (hv : vs[(k - 256).toNat]? = some v) :
    Fn w 204 2 16 [.int k t, .ref ln, .ref lp] news (Gives news fun _ => v) := deed_name (parts := #[]) (np := 0) hn hk0 hk1 (by rw [List.getElem?_toArray]; exact hv)
/-- the place of the end -/
structure VE where
  e : Int
  t : Tok
def VEP (ks : List Int) (c : VE) (_ : Nat) : Prop := 0 ≤ c.e ∧ c.e < ks.length ∧ ∀ j : Nat, (j : Int) < c.e → ks.getD j 0 ≠ 0
theorem vep_step {ks : List Int} {e : Int} (h0 : 0 ≤ e) (h1 : e < ks.length) (h2 : ∀ j : Nat, (j : Int) < e → ks.getD j 0 ≠ 0) (hn : ¬ ks.getD e.toNat 0 = 0) (hl : ∃ ks', ks = ks' ++ [0]) : 0 ≤ e + 1 ∧ e + 1 < ks.length ∧ ∀ j : Nat, (j : Int) < e + 1 → ks.getD j 0 ≠ 0 := by
  obtain ⟨ks', rfl⟩ := hl
  refine ⟨by omega, ?_, fun j hj => ?_⟩
  · rw [List.length_append] at h1 ⊢
    simp only [List.length_cons, List.length_nil] at h1 ⊢
    have : e.toNat ≠ ks'.length := fun q => by
      apply hn; rw [q, List.getD_eq_getElem?_getD, List.getElem?_append_right (Nat.le_refl _)]; simp
    omega
  · by_cases q : (j : Int) < e
    · exact h2 j q
    · rw [show j = e.toNat by omega]; exact hn
/-- the first end -/
theorem vep_end {ks' : List Int} {e : Int} (h0 : 0 ≤ e) (h1 : e < (ks' ++ [0]).length) (hn : (ks' ++ [0]).getD e.toNat 0 = 0) (hz : ∀ k ∈ ks', k ≠ 0) : e = ks'.length := by
  rw [List.length_append] at h1
  simp only [List.length_cons, List.length_nil] at h1
  by_cases q : e.toNat < ks'.length
  · rw [List.getD_eq_getElem?_getD, List.getElem?_append_left q, List.getElem?_eq_getElem q] at hn
    exact absurd hn (hz _ (List.getElem_mem q))
  · omega
theorem off1_mem {D : Addr} : ∀ {l : List (Addr × Obj)}, LCg.Off1 D l → ∀ p ∈ l, p.1 ≠ D
  | [], _, _, h => nomatch h
  | _ :: _, x, p, h => by
    rcases List.mem_cons.mp h with rfl | h
    · exact x.1
    · exact off1_mem x.2 p h
section
variable {prog : Program} {w : World} {A : Around} {E : Value → Shared → Prop} {s : Shared} {h₀ : Heap} {La l : Addr} {m : PySem.Str → Option Value} {news news' : List (Addr × Obj)} {n : Nat} {u : Tok} {vs : List Value} {ks : List Int} {k : Int}
theorem item_intN {Q : Value → Shared → Prop} {value slice : Expr} (j : Nat) (N : News h₀ La s.heap news) (hb : (l, listOf vs.toArray n) ∈ news) (hi : IntsAre vs ks) (e : k = (j : Int)) (h1 : j < ks.length) (hz : ks.length ≤ 100) (h : ∀ t, Q (.int (ks.getD j 0) t) s)
    (hs : subscripted slice false (.ref l) (.int k u) = operate [.ref l, .int k u] (getItem (.ref l) (.int k u)) := by with_unfolding_all rfl) (hg : ∀ r, letTemporaryGo value (.ref l) r = pure () := by intro _; with_unfolding_all rfl) :
    wpAny (model prog w) A (subscriptTail value slice (.ref l) (.int k u)) Q E s := by
  subst e
  exact item_ints N hb hi (Int.natCast_nonneg _) (Int.ofNat_lt.mpr h1) hz h hs hg
theorem item_anyN {Q : Value → Shared → Prop} {value slice : Expr} (j : Nat) {v : Value} (N : News h₀ La s.heap news) (hb : (l, listOf vs.toArray n) ∈ news) (e : k = (j : Int)) (hv : vs[j]? = some v) (hz : vs.length ≤ 100) (h : Q v s)
    (hs : subscripted slice false (.ref l) (.int k u) = operate [.ref l, .int k u] (getItem (.ref l) (.int k u)) := by with_unfolding_all rfl) (hg : ∀ r, letTemporaryGo value (.ref l) r = pure () := by intro _; with_unfolding_all rfl) :
    wpAny (model prog w) A (subscriptTail value slice (.ref l) (.int k u)) Q E s := by
  subst e
  have hlt : j < vs.length := (List.getElem?_eq_some_iff.mp hv).1
  exact item_known N hb (Int.natCast_nonneg _) (Int.ofNat_lt.mpr (Nat.lt_of_lt_of_le hlt hz)) (by rw [List.getElem?_toArray]; exact hv) h hs hg
theorem item_getD {Q : Value → Shared → Prop} {value slice : Expr} (j : Nat) (N : News h₀ La s.heap news) (hb : (l, listOf vs.toArray n) ∈ news) (e : k = (j : Int)) (hv : j < vs.length) (hz : vs.length ≤ 100) (h : Q (vs.getD j .none) s)
    (hs : subscripted slice false (.ref l) (.int k u) = operate [.ref l, .int k u] (getItem (.ref l) (.int k u)) := by with_unfolding_all rfl) (hg : ∀ r, letTemporaryGo value (.ref l) r = pure () := by intro _; with_unfolding_all rfl) :
    wpAny (model prog w) A (subscriptTail value slice (.ref l) (.int k u)) Q E s :=
  item_anyN j N hb e (by rw [List.getD_eq_getElem?_getD, List.getElem?_eq_getElem hv]; rfl) hz h hs hg
theorem set_any {Q : Unit → Shared → Prop} (j : Nat) {v : Value} (F : Fr h₀ La s.heap m) (N : News h₀ La s.heap news) (U : Upd l (listOf vs.toArray n) (listOf (vs.set j v).toArray n) news news') (e : k = (j : Int)) (h1 : j < vs.length) (hz : vs.length ≤ 100)
    (h : ∀ h', Fr h₀ La h' m → News h₀ La h' news' → Q () { s with heap := h' }) : wpAny (model prog w) A (setItem (.ref l) (.int k u) v) Q E s := by
  subst e
  obtain ⟨pre, post, rfl, rfl, a, b⟩ := U.split
  have z := N (l, listOf vs.toArray n) (List.mem_append.mpr (.inr (.head _)))
  refine ki_setAt z.1 (Int.natCast_nonneg _) (by omega) (by rw [List.size_toArray]; omega) (h _ (F.change (Heap.SameBut.update ..) z.2.1 z.2.2) (ki_turn _ N a b ?_ ?_))
  · show vs.toArray.setIfInBounds j v = (vs.set j v).toArray
    apply Array.toList_inj.mp
    simp
  · simp
end
section
variable {prog : Program} {w : World} {A : Around} {h₀ : Heap} {L : Addr} {m : PySem.Str → Option Value} {env : Env} {ct elt : Expr} {x : PySem.Str} {scope : Scope} {cl : List (PySem.Str × Addr)} {s : Shared} {S : List (Addr × Obj) → Prop} {P : Nat → Value → Prop} {Fin : List Value → List (Addr × Obj) → Prop} {news : List (Addr × Obj)}
theorem comp_end {I C D : Addr} {oI oC oD : Obj} {y : Value} {r r' : Value → List (Addr × Obj) → Prop} {s' : Shared} (hr : ∀ news', r y news' → r' y news') (h : LCg.CompEnd h₀ L m s I oI C oC D oD S r y s') : LCg.CompEnd h₀ L m s I oI C oC D oD S r' y s' := by
  obtain ⟨h', tk, news', e, F, N, off, hS, q⟩ := h
  exact ⟨h', tk, news', e, F, N, off, hS, hr _ q⟩
theorem rest_rng {a : Int} (Y : Nat → List Value) (n : Nat) (hY : Y 0 = [])
    (turn : ∀ i t I oI C oC D m₂ h tk (E' : Value → Shared → Prop), i < n → LCg.NsObj oC m₂ → m₂ x = some (.int (a + (i : Int)) t) → Fr h₀ L h m → News h₀ L h ((I, oI) :: (C, oC) :: (D, LCg.lst (Y i)) :: news) → LCg.Off3 I C D news → ((@Ne Nat I C) ∧ (@Ne Nat I D) ∧ (@Ne Nat C D)) →
      wpAny (model prog w) A (eval elt (compEnvC scope cl C env)) (LCg.CompEnd h₀ L m { s with heap := h, toks := tk } I oI C oC D (LCg.lst (Y i)) S (fun y news' => news' = news ∧ Y i ++ [y] = Y (i + 1))) E' { s with heap := h, toks := tk })
    (fin : Fin (Y n) news) : LCg.CompRest prog w A h₀ L m env elt x scope cl s S (fun i v => ∃ t, v = .int (a + (i : Int)) t) Fin n 0 [] news := by
  suffices h : ∀ k i, i + k = n → LCg.CompRest prog w A h₀ L m env elt x scope cl s S (fun i v => ∃ t, v = .int (a + (i : Int)) t) Fin k i (Y i) news by
    have := h n 0 (Nat.zero_add _); rwa [hY] at this
  intro k
  induction k with
  | zero => intro i e; rw [show i = n by omega]; exact fin
  | succ k ih =>
    intro i e v I oI C oC D m₂ h tk E' hP hC hx F N off ne
    obtain ⟨t, rfl⟩ := hP
    exact wpAny_mono (turn i t I oI C oC D m₂ h tk E' (by omega) hC hx F N off ne) (fun y s' q => comp_end (fun news' ⟨a, b⟩ => by rw [a, b]; exact ih (i + 1) (by omega)) q) fun _ _ e => e
theorem restT_rng {a : Int} (Y : Nat → List Value) (n : Nat) (hY : Y 0 = [])
    (turn : ∀ i t I oI C oC D m₂ h tk (E' : Value → Shared → Prop), i < n → LCg.NsObj oC m₂ → m₂ x = some (.int (a + (i : Int)) t) → Fr h₀ L h m → News h₀ L h ((I, oI) :: (C, oC) :: (D, LCg.lst (Y i)) :: news) → LCg.Off3 I C D news → ((@Ne Nat I C) ∧ (@Ne Nat I D) ∧ (@Ne Nat C D)) →
      wpAny (model prog w) A (PySem.isTrue ct (compEnvC scope cl C env) (eval ct (compEnvC scope cl C env))) (fun ok s' => if ok = true then
        wpAny (model prog w) A (eval elt (compEnvC scope cl C env)) (LCg.CompEnd h₀ L m { s with heap := h, toks := tk } I oI C oC D (LCg.lst (Y i)) S (fun y news' => news' = news ∧ Y i ++ [y] = Y (i + 1))) E' s'
        else LCg.CompEnd h₀ L m { s with heap := h, toks := tk } I oI C oC D (LCg.lst (Y i)) S (fun _ news' => news' = news ∧ Y i = Y (i + 1)) Value.none s') E' { s with heap := h, toks := tk })
    (fin : Fin (Y n) news) : LCt.CompRestT prog w A h₀ L m env ct elt x scope cl s S (fun i v => ∃ t, v = .int (a + (i : Int)) t) Fin n 0 [] news := by
  suffices h : ∀ k i, i + k = n → LCt.CompRestT prog w A h₀ L m env ct elt x scope cl s S (fun i v => ∃ t, v = .int (a + (i : Int)) t) Fin k i (Y i) news by
    have := h n 0 (Nat.zero_add _); rwa [hY] at this
  intro k
  induction k with
  | zero => intro i e; rw [show i = n by omega]; exact fin
  | succ k ih =>
    intro i e v I oI C oC D m₂ h tk E' hP hC hx F N off ne
    obtain ⟨t, rfl⟩ := hP
    refine wpAny_mono (turn i t I oI C oC D m₂ h tk E' (by omega) hC hx F N off ne) (fun ok s' q => ?_) fun _ _ e => e
    by_cases hk : ok = true
    · rw [if_pos hk] at q ⊢
      exact wpAny_mono q (fun y s' q => comp_end (fun news' ⟨a, b⟩ => by rw [a, b]; exact ih (i + 1) (by omega)) q) fun _ _ e => e
    · rw [if_neg hk] at q ⊢
      exact comp_end (fun news' ⟨a, b⟩ => by rw [a, b]; exact ih (i + 1) (by omega)) q
end
theorem cast_add3 (a b : Nat) : ((a : Int) + 1 + (b : Int)) = ((a + 1 + b : Nat) : Int) := by omega
theorem pt_lt {a b i n m : Nat} (h : b < i) (e : a = n - 1 - i) (hi : i < n) (hm : m = n) : a + 1 + b < m := by omega
theorem le100 {n : Nat} (h : n ≤ 90) : n ≤ 100 := Nat.le_trans h (by decide)
theorem cast3_nn (a b : Nat) : (0 : Int) ≤ (a : Int) + 1 + (b : Int) := Int.natCast_nonneg (a + 1 + b)
theorem cast3_lt {a b i n m : Nat} (h : b < i) (e : a = n - 1 - i) (hi : i < n) (hm : m = n) : (a : Int) + 1 + (b : Int) < (m : Int) := Int.ofNat_lt.2 (pt_lt h e hi hm)
theorem vs_up {n : Nat} (h : n ≤ 90) : Builtin.Range.small 0 (n : Int) 1 = true := small_one (by decide) (by decide) (Int.le_trans (by decide) (Int.natCast_nonneg n)) (Int.lt_of_le_of_lt (Int.ofNat_le.2 h) (by decide))
theorem vs_mid {n k : Nat} (h : n ≤ 90) (hk : k < n) : Builtin.Range.small ((k : Int) + 1) (n : Int) 1 = true := small_one (Int.le_trans (by decide) (Int.natCast_nonneg (k + 1))) (Int.lt_of_le_of_lt (Int.ofNat_le.2 (Nat.le_trans hk h)) (by decide)) (Int.le_trans (by decide) (Int.natCast_nonneg n)) (Int.lt_of_le_of_lt (Int.ofNat_le.2 h) (by decide))
theorem vs_down {n : Nat} (h : n ≤ 90) : Builtin.Range.small ((n : Int) - 1) (-1) (-1) = true := small_down (Int.le_trans (by decide) (Int.sub_le_sub_right (Int.natCast_nonneg n) 1)) (Int.lt_of_le_of_lt (Int.sub_le_sub_right (Int.ofNat_le.2 h) 1) (by decide)) (by decide) (by decide)
theorem vz_up (n : Nat) : Builtin.Range.rangeSize 0 (n : Int) 1 = n := by rw [rangeSize_nat, Int.sub_zero]; rfl
theorem vz_down (n : Nat) : Builtin.Range.rangeSize ((n : Int) - 1) (-1) (-1) = n := by rw [rangeSize_downNat, Int.sub_neg, Int.sub_add_cancel]; rfl
theorem vz_mid {n k i : Nat} (e : k = n - 1 - i) (h : i < n) : Builtin.Range.rangeSize ((k : Int) + 1) (n : Int) 1 = i := by rw [rangeSize_nat]; omega
theorem v_ln {n : Nat} (h : n ≤ 90) : n ≤ sizeLine := Nat.le_trans h (by first | size_fits | exact Nat.le_of_ble_eq_true rfl)
theorem kn_lt {n k i : Nat} (e : k = n - 1 - i) (h : i < n) : k < n := by omega
theorem kn_is {n k i : Nat} {v : Int} (ev : v = (n : Int) - 1 + (i : Int) * -1) (e : k = n - 1 - i) (h : i < n) : v = k := by omega
/-- the parts of the k-th deed among the next i -/
def pts (ab : List Int) (vals : List Value) (k : Nat) : Nat → List Value
  | 0 => []
  | i + 1 => pts ab vals k i ++ if ab.getD (k + 1 + i) 0 = (k : Int) then [vals.getD (k + 1 + i) .none] else []
theorem pts_yes {ab : List Int} {vals : List Value} {k i : Nat} (h : ab.getD (k + 1 + i) 0 = (k : Int)) : pts ab vals k i ++ [vals.getD (k + 1 + i) .none] = pts ab vals k (i + 1) := by
  rw [pts, if_pos h]
theorem pts_no {ab : List Int} {vals : List Value} {k i : Nat} (h : ¬ ab.getD (k + 1 + i) 0 = (k : Int)) : pts ab vals k i = pts ab vals k (i + 1) := by
  rw [pts, if_neg h, List.append_nil]
/-- what a deed gives of its parts -/
def DeedOf (w : World) (ln : Addr) (vn : List Value) (cn9 : Nat) (K : Int) (parts : List Value) (s2 : Tok) (R : Tok → Value) : Prop :=
  ∀ (lp : Addr) (np : Nat) (t : Tok) (news : List (Addr × Obj)), (ln, listOf vn.toArray cn9) ∈ news → (lp, listOf parts.toArray np) ∈ news → Fn w 204 3 24 [.int K t, .ref ln, .ref lp] news (GivesM s2 news R)
theorem deed_fn {w : World} {ln : Addr} {vn : List Value} {cn9 : Nat} {K : Int} {parts : List Value} {s2 : Tok} {R : Tok → Value} (h : DeedOf w ln vn cn9 K parts s2 R) {lp : Addr} {np : Nat} {t : Tok} {news : List (Addr × Obj)} (hn : (ln, listOf vn.toArray cn9) ∈ news) (hp : (lp, listOf parts.toArray np) ∈ news) :
    Fn w 204 3 24 [.int K t, .ref ln, .ref lp] news (GivesM s2 news R) := h lp np t news hn hp
/-- where a turn begins: the list of what is told, and the three cells -/
def VJ (L' D la : Addr) (news : List (Addr × Obj)) (V : List Value → Prop) (news' : List (Addr × Obj)) : Prop :=
  ∃ vals n o1 o2 o3, news' = (D, listOf vals.toArray n) :: (L' + 1 + 1 + 1, o1) :: (L' + 1 + 1, o2) :: (L' + 1, o3) :: news ∧ V vals ∧ o1.data = .cell (some (.ref D)) ∧ (∃ v, o2.data = .cell v) ∧ o3.data = .cell (some (.ref la))
theorem vj_mk {L' D la : Addr} {news : List (Addr × Obj)} {V : List Value → Prop} {vals : List Value} {n : Nat} {o1 o2 o3 : Obj} {v : Option Value} (hV : V vals) (h1 : o1.data = .cell (some (.ref D))) (h2 : o2.data = .cell v) (h3 : o3.data = .cell (some (.ref la))) :
    VJ L' D la news V ((D, listOf vals.toArray n) :: (L' + 1 + 1 + 1, o1) :: (L' + 1 + 1, o2) :: (L' + 1, o3) :: news) := ⟨vals, n, o1, o2, o3, rfl, hV, h1, ⟨v, h2⟩, h3⟩
theorem forRest_vj {prog : Program} {w : World} {A : Around} {E : Value → Shared → Prop} {s : Shared} {env : Env} {h₀ : Heap} {L L' D la : Addr} {target : Expr} {body : List Stmt} {Q : Flow → Shared → Prop} {n0 n9 : Nat} {a c : Int} {m : PySem.Str → Option Value} {vals : List Value} {o1 o2 o3 : Obj} {v : Option Value} {news : List (Addr × Obj)} (V : Nat → List Value → Prop) (n : Nat)
    (h1 : o1.data = .cell (some (.ref D))) (h2 : o2.data = .cell v) (h3 : o3.data = .cell (some (.ref la))) (hV : V 0 vals)
    (turn : ∀ i news', i < n → VJ L' D la news (V i) news' → ∀ t I oI h tk v, v = a + (i : Int) * c → n0 ≤ tk → oI.cls = .type "range_iterator" → Fr h₀ L h m → News h₀ L h ((I, oI) :: news') → (∀ p ∈ news', p.1 ≠ I) →
      wpAny (model prog w) A (assign target env (.int v t)) (fun _ s₂ => wpAny (model prog w) A (execs body env)
        (ForPost h₀ L s I oI (fun m' news' => m' = m ∧ VJ L' D la news (V (i + 1)) news') Q) E s₂) E { s with heap := h, toks := tk })
    (done : ∀ news' h tk, VJ L' D la news (V n) news' → n0 ≤ tk → Fr h₀ L h m → News h₀ L h news' → Q .next { s with heap := h, toks := tk }) :
    ForRest prog w A E h₀ L env target body Q n0 s a c n 0 m ((D, listOf vals.toArray n9) :: (L' + 1 + 1 + 1, o1) :: (L' + 1 + 1, o2) :: (L' + 1, o3) :: news) :=
  forRest_of (fun i news' => VJ L' D la news (V i) news') n turn done n 0 _ (Nat.zero_add _) (vj_mk hV h1 h2 h3)
section
variable {prog : Program} {w : World} {A : Around} {h₀ : Heap} {L : Addr} {m : PySem.Str → Option Value} {env : Env} {elt : Expr} {x : PySem.Str} {scope : Scope} {cl : List (PySem.Str × Addr)} {s : Shared} {S : List (Addr × Obj) → Prop} {Fin : List Value → List (Addr × Obj) → Prop} {news : List (Addr × Obj)}
theorem strs_one {y : PySem.Str} {t : Tok} : ∀ {vs : List Value} {ys : List PySem.Str}, StrsAre vs ys → StrsAre (vs ++ [.str y t]) (ys ++ [y])
  | _, _, .nil => .cons y t .nil
  | _, _, .cons z u r => .cons z u (strs_one r)
/-- the end of a comprehension of texts (a word of its own, that the walk stops at) -/
def StrFin (Fin : List Value → List (Addr × Obj) → Prop) (news : List (Addr × Obj)) (ts : List PySem.Str) : Prop := ∀ ys, StrsAre ys ts → Fin ys news
def StrTurn (news : List (Addr × Obj)) (r : PySem.Str) (y : Value) (news' : List (Addr × Obj)) : Prop := news' = news ∧ ∃ t, y = .str r t
theorem rest_strs {a : Int} (g : Nat → PySem.Str) (n : Nat)
    (turn : ∀ i t I oI C oC D m₂ ys h tk (E' : Value → Shared → Prop), i < n → LCg.NsObj oC m₂ → m₂ x = some (.int (a + (i : Int)) t) → Fr h₀ L h m → News h₀ L h ((I, oI) :: (C, oC) :: (D, LCg.lst ys) :: news) → LCg.Off3 I C D news → ((@Ne Nat I C) ∧ (@Ne Nat I D) ∧ (@Ne Nat C D)) →
      wpAny (model prog w) A (eval elt (compEnvC scope cl C env)) (LCg.CompEnd h₀ L m { s with heap := h, toks := tk } I oI C oC D (LCg.lst ys) S (StrTurn news (g i))) E' { s with heap := h, toks := tk })
    (fin : StrFin Fin news ((List.range n).map g)) : LCg.CompRest prog w A h₀ L m env elt x scope cl s S (fun i v => ∃ t, v = .int (a + (i : Int)) t) Fin n 0 [] news := by
  suffices h : ∀ k i ys, i + k = n → StrsAre ys ((List.range i).map g) → LCg.CompRest prog w A h₀ L m env elt x scope cl s S (fun i v => ∃ t, v = .int (a + (i : Int)) t) Fin k i ys news from h n 0 [] (Nat.zero_add _) .nil
  intro k
  induction k with
  | zero => intro i ys e hy; rw [show i = n by omega] at hy; exact fin ys hy
  | succ k ih =>
    intro i ys e hy v I oI C oC D m₂ h tk E' hP hC hx F N off ne
    obtain ⟨t, rfl⟩ := hP
    refine wpAny_mono (turn i t I oI C oC D m₂ ys h tk E' (by omega) hC hx F N off ne) (fun y s' q => comp_end (fun news' ⟨a, t', b⟩ => ?_) q) fun _ _ e => e
    rw [a, b]
    refine ih (i + 1) _ (by omega) ?_
    rw [List.range_succ, List.map_append]
    exact strs_one hy
end
end
section
set_option maxHeartbeats 4000000 in
theorem value_c {w : World} {lk ln la : Addr} {ck cn9 ca : Nat} {ks ab : List Int} {vk va vn : List Value} {s2 : Tok} {Rf : Tok → Value} {news : List (Addr × Obj)} (V : Nat → List Value → Prop)
    (hk9 : (lk, listOf vk.toArray ck) ∈ news) (hn : (ln, listOf vn.toArray cn9) ∈ news) (ha : (la, listOf va.toArray ca) ∈ news) (hki : IntsAre vk (ks ++ [0])) (hai : IntsAre va ab) (hkz : ∀ k ∈ ks, k ≠ 0) (hal : ab.length = ks.length) (hk0 : 0 < ks.length) (hk1 : ks.length ≤ 90)
    (hV0 : V 0 (List.replicate ks.length Value.none)) (hstep : ∀ i vals, i < ks.length → V i vals → vals.length = ks.length → ∃ R, DeedOf w ln vn cn9 (ks.getD (ks.length - 1 - i) 0) (pts ab vals (ks.length - 1 - i) i) s2 R ∧ ∀ t, V (i + 1) (vals.set (ks.length - 1 - i) (R t)))
    (hend : ∀ vals, V ks.length vals → ∃ t, vals[0]? = some (Rf t)) :
    Fn w 209 5 60 [.ref lk, .ref ln, .ref la] news (GivesM s2 news Rf) := by
  intro mean mg mb dp un gd cn cs a ccd cl outer A₀ base h₀ La m s Q E B F X N T hk hd hu hret
  k_with_none
  w_top off
  k_with "k_mem" => (assumption)
  k_with "k_all" => (first | assumption | exact off1_mem (by assumption))
  k_with "k_ne" => (first | with_reducible assumption | (with_reducible exact Ne.symm (by assumption)) | exact Nat.ne_of_lt (by assumption) | exact Nat.ne_of_gt (by assumption) | (refine neN ?_; (try dsimp only); simp; done))
  obtain ⟨⟨hT1, hT2⟩, hret⟩ := hret
  have hfl : Floor s.toks := trivial
  k_with_none
  w_top off
  k_with "k_mem" => (assumption)
  k_with "k_all" => (first | assumption | exact off1_mem (by assumption))
  k_with "k_ne" => (first | with_reducible assumption | (with_reducible exact Ne.symm (by assumption)) | exact Nat.ne_of_lt (by assumption) | exact Nat.ne_of_gt (by assumption) | (refine neN ?_; (try dsimp only); simp; done))
  k_with "execs cons" => (k_here; with_reducible refine execs_tok ?_)
  k_with "execs nil" => (k_here; with_reducible refine wpAny_execs_nil ?_)
  k_with "LEI" => (with_reducible refine toks_intro ?_; intro hT9; (try dsimp only at hT9); (try dsimp only))
  k_with "eval ListComp" => (k_here; (fail_if_success (with_reducible show wpAny _ _ _ (TGrow _ _) _ _)); refine tgrow ?_)
  k_with "TGrow" => (refine tgrow_out ?_; intro hT9; (try dsimp only at hT9); (try dsimp only))
  k_with "TOWHILE" => (repeat' (first | walk_at "LEI" | (k_unfold; (try dsimp only)) | ((fail_if_success (with_reducible show wpAny _ _ (exec (.While _ _ _ _) _) _ _ _)); walk1) | ((fail_if_success (with_reducible show wpAny _ _ (exec (.While _ _ _ _) _) _ _ _)); dsimp only; walk1)))
  k_with "TOASSIGN" => (repeat' (first | walk_at "LEI" | (k_unfold; (try dsimp only)) | ((fail_if_success (with_reducible show wpAny _ _ (exec (.Assign _ _ _) _) _ _ _)); walk1) | ((fail_if_success (with_reducible show wpAny _ _ (exec (.Assign _ _ _) _) _ _ _)); dsimp only; walk1)))
  k_with "call ref" => (k_here; (with_reducible show wpAny _ _ (call (Value.ref 178) _) _ _ _); k_dflt (refine' ise_c ?B ?F ?X ?N ?T ?hk ?hd ?hu ?_; (case F => k_asm); (case N => k_asm); (case B => k_asm); (case X => k_asm); (case T => k_asm); (case hk => first | exact rfl | assumption); (case hd => ktr_room); (case hu => ktr_units)); intro t9 h9 tk9 F9 N9; (try dsimp only); (try k_fold))
  k_with "subscriptTail" => (k_here; (with_reducible show wpAny _ _ (subscriptTail _ _ (Value.ref _) (Value.int _ _)) _ _ _); k_dflt (refine' item_ints ?N ?xm ?xi ?xa ?xb ?xc ?_; (case N => k_asm); (case xm => k_mem); (case xi => assumption); (case xa => assumption); (case xb => assumption); (case xc => assumption)); intro t9; (try dsimp only); (try k_fold))
  k_with "subscriptTail Name Name ref int" => walk_at "subscriptTail"
  refine wpAny_call ?_
  k_dflt (refine' enter_cells ?k1 ?k2 ?k3 ?k4 ?k5 ?kA ?kF ?kK ?k6 ?k7 ?k8 ?k9 ?kB ?kD ?_ ?c2 ?c3 ?c4; (case kA => exact rfl); (case kF => exact rfl); (case kK => assumption); (case k1 => k_asm); (case k2 => k_asm); (case k3 => k_asm); (case k4 => k_asm); (case k5 => k_asm); (case k6 => k_is); (case k7 => k_is); (case k8 => ktr_room); (case k9 => exact BindsTo.of_eq rfl); (case kB => exact rfl); (case kD => decide +kernel); (case c2 => exact rfl); (case c3 => exact rfl); (case c4 => exact rfl); k_whole)
  intro g' L' h' tk' cells' hT7 FG' F' N' Y' B' X' T' l1
  (try k_lt l1)
  have nc1 : ∀ p ∈ news, p.1 ≠ L' + 1 := fun p hp => Nat.ne_of_lt (Nat.lt_succ_of_lt (l1 p hp))
  have nc2 : ∀ p ∈ news, p.1 ≠ L' + 1 + 1 := fun p hp => Nat.ne_of_lt (Nat.lt_succ_of_lt (Nat.lt_succ_of_lt (l1 p hp)))
  have nc3 : ∀ p ∈ news, p.1 ≠ L' + 1 + 1 + 1 := fun p hp => Nat.ne_of_lt (Nat.lt_succ_of_lt (Nat.lt_succ_of_lt (Nat.lt_succ_of_lt (l1 p hp))))
  k_cells Y'
  (try simp only [List.cons_append, List.nil_append] at N')
  (try dsimp only)
  (try k_lift B')
  (try k_fold)
  k_with "exec While UnaryOp cons nil" => fail "stop"
  walk_at "TOWHILE"
  rename Fr _ _ _ _ => kF
  rename News _ _ _ _ => kN
  have hl9 : (ks ++ [0]).length = ks.length + 1 := by rw [List.length_append]; rfl
  refine' tw_while (fun _ : VE => _) (fun c => [(PySem.Str.ofString "end", .int c.e c.t)]) (fun _ => True) [] (VEP (ks ++ [0])) (fun c => (ks.length - c.e).toNat) ⟨0, _⟩ kF kN True.intro ?ps ⟨Int.le_refl _, ?len, ?z⟩ ?turn
  case ps =>
    refine List.forall_mem_cons.mpr ⟨?_, List.forall_mem_nil _⟩
    dsimp only
    rfl
  case len => rw [hl9]; dsimp only; first | exact Int.ofNat_lt.2 (Nat.succ_pos _) | exact Int.natCast_nonneg _
  case z => intro j hj; dsimp only at hj; exact absurd hj (Int.not_lt.2 (Int.natCast_nonneg _))
  case turn =>
    clear kF kN
    rintro ⟨e, t⟩ u h tk - ⟨v1, v2, v3⟩ kF kN
    dsimp only [kstB] at kF v1 v2 v3
    have v4 : (ks ++ [0]).length ≤ 100 := by rw [hl9]; exact Nat.le_trans (Nat.succ_le_succ hk1) (by decide)
    walk_at "TOASSIGN"
    · have he : e = ks.length := vep_end v1 v2 (by assumption) hkz
      subst he
      clear v1 v2 v3
      k_with "CompSrc" => (k_dflt (refine' LCg.CompSrc.range (n := ks.length) ?hh ?F ?N ?hr ?sm ?sz ?ln ?_; (case hh => rfl); (case F => k_asm); (case N => k_asm); (case hr => assumption); (case sm => exact vs_up hk1); (case sz => exact vz_up _); (case ln => exact v_ln hk1)); intro g5; refine' rest_rng (fun i => List.replicate i Value.none) _ rfl ?_ ?_)
      k_with "CompEnd" => (refine LCg.CompEnd.intro (by assumption) (by assumption) _ (fun p hp => hp) (by assumption) True.intro ⟨rfl, ?_⟩; exact List.replicate_succ'.symm)
      k_with "exec For Name Call cons nil" => (k_here; refine for_range (by assumption) (by k_asm) (by dsimp only; omega) rfl ?_)
      k_with "ForSrc" => (k_dflt (refine' forSrc_range ks.length ?F ?N ?hr ?sm ?sz ?_; (case F => k_asm); (case N => k_asm); (case hr => assumption); (case sm => exact vs_down hk1); (case sz => exact vz_down _)))
      walk_at "TOWHILE"
      · rename (_ ≠ _ ∧ _ ≠ _ ∧ _ ≠ _ ∧ LCg.Off1 _ _) => o9
        obtain ⟨o91, o92, o93, o94⟩ := o9
        refine' forRest_vj (fun i vals => vals.length = ks.length ∧ V i vals) ks.length ?th1 ?th2 ?th3 ⟨List.length_replicate, hV0⟩ ?tturn ?tdone
        case th1 => assumption
        case th2 => assumption
        case th3 => assumption
        case tdone =>
          rintro news' h9 tk9 ⟨vals, n9, q1, q2, q3, rfl, ⟨hvl, hV⟩, d1, ⟨v9, d2⟩, d3⟩ le9 F9 N9
          obtain ⟨tf, hvf⟩ := hend vals hV
          have hvz : vals.length ≤ 100 := hvl ▸ le100 hk1
          (try k_sweep)
          k_with "subscriptTail" => (k_here; (with_reducible show wpAny _ _ (subscriptTail _ _ (Value.ref _) (Value.int _ _)) _ _ _); k_dflt (refine' item_anyN 0 ?N ?xm ?xe ?xv ?xc ?_; (case N => k_asm); (case xm => exact List.Mem.head _); (case xe => exact rfl); (case xv => assumption); (case xc => assumption)); (try dsimp only); (try k_fold))
          walk_at "TOWHILE"
          refine gives_drop4 (R := Rf) hret (by k_asm) (by k_asm)
        case tturn =>
          rintro i news' hi ⟨vals, n9, q1, q2, q3, rfl, ⟨hvl, hV⟩, d1, ⟨v9, d2⟩, d3⟩ t9 I oI h9 tk9 v ev le9 hc9 F9 N9 off9
          obtain ⟨kn, hkn⟩ : ∃ kn : Nat, kn = ks.length - 1 - i := ⟨_, rfl⟩
          have evn : v = (kn : Int) := kn_is ev hkn hi
          subst evn
          obtain ⟨R1, hD, hset⟩ := hstep i vals hi hV hvl
          rw [← hkn] at hD hset
          have hvz : vals.length ≤ 100 := hvl ▸ le100 hk1
          have of9 := offN_of off9
          simp only [OffN] at of9
          obtain ⟨of1, of2, of3, of4, of5⟩ := of9
          (try k_sweep)
          have hkN : kn < ks.length := kn_lt hkn hi
          have ka9 : (0 : Int) ≤ (kn : Int) := Int.natCast_nonneg _
          have kb9 : (kn : Int) < ((ks ++ [0]).length : Int) := by rw [hl9]; exact Int.ofNat_lt.2 (Nat.lt_succ_of_lt hkN)
          have hkk : (ks ++ [0]).getD kn 0 = ks.getD kn 0 := by rw [List.getD_eq_getElem?_getD, List.getD_eq_getElem?_getD, List.getElem?_append_left hkN]
          rw [← hkk] at hD
          k_with "subscriptTail" => (k_here; (with_reducible show wpAny _ _ (subscriptTail _ _ (Value.ref _) (Value.int _ _)) _ _ _); k_dflt (refine' item_getD _ ?N ?xm ?xe ?xv ?xc ?_; (case N => k_asm); (case xm => exact List.Mem.tail _ (List.Mem.tail _ (List.Mem.tail _ (List.Mem.tail _ (List.Mem.head _))))); (case xe => exact cast_add3 _ _); (case xv => exact pt_lt (by assumption) hkn hi hvl); (case xc => assumption)); (try dsimp only); (try k_fold))
          k_with "subscriptTail" => (k_here; (with_reducible show wpAny _ _ (subscriptTail _ _ (Value.ref _) (Value.int (_ + 1 + _) _)) _ _ _); k_dflt (refine' item_ints ?N ?xm hai ?xa ?xb ?xc ?_; (case N => k_asm); (case xm => k_mem); (case xa => exact cast3_nn _ _); (case xb => exact cast3_lt (by assumption) hkn hi hal); (case xc => exact hal ▸ le100 hk1)); intro t9; (try dsimp only); (try k_fold))
          k_with "CompEnd" => (refine LCg.CompEnd.intro (by assumption) (by assumption) _ (fun p hp => hp) (by assumption) True.intro ⟨rfl, ?_⟩; k_dflt (first | exact pts_yes (by assumption) | exact pts_no (by assumption)))
          k_with "call ref" => (k_here; (with_reducible show wpAny _ _ (call (Value.ref 204) _) _ _ _); k_dflt (refine' deed_fn hD ?hn ?hp ?B ?F ?X ?N ?T ?hk ?hd ?hu ⟨?tok, ?_⟩; (case N => k_asm); (case F => k_asm); (case B => k_asm); (case X => k_asm); (case T => k_asm); (case hk => first | exact rfl | assumption); (case hd => ktr_room); (case hu => ktr_units); (case hn => k_mem); (case hp => exact List.Mem.head _); (case tok => (refine ⟨?_, ?_⟩ <;> (try dsimp only) <;> first | assumption | omega))); intro t8 h8 tk8 F8 N8; (try dsimp only); (try k_fold))
          k_with "setItem ref int" => (k_here; k_dflt (refine' set_any kn ?F ?N ?U ?xe ?xa ?xc ?_; (case F => k_asm); (case N => k_asm); (case U => k_upd); (case xe => exact rfl); (case xa => rw [hvl]; exact hkN); (case xc => assumption)); intro h8 F8 N8; (try k_sweep))
          k_with "ForEnd" => (refine' for_end1 off9 ?F ?N ?xe ⟨rfl, vj_mk ⟨?xl, hset _⟩ ?xa ?xb ?xc⟩; (case F => k_asm); (case N => k_asm); (case xe => exact rfl); (case xa => assumption); (case xb => assumption); (case xc => assumption); (case xl => rw [List.length_set]; exact hvl))
          k_with "ForPost" => (dsimp only [ForPost])
          k_with "CompSrcT" => (k_dflt (refine' LCt.CompSrcT.range (n := i) ?hh ?F ?N ?hr ?sm ?sz ?ln ?_; (case hh => rfl); (case F => k_asm); (case N => k_asm); (case hr => assumption); (case sm => exact vs_mid hk1 hkN); (case sz => exact vz_mid hkn hi); (case ln => exact v_ln (Nat.le_of_lt (Nat.lt_of_lt_of_le hi hk1)))); intro g5; refine' restT_rng (fun i => pts ab vals kn i) _ rfl ?_ ?_)
          walk_at "TOWHILE"
    · walk_at "TOWHILE"
      dsimp only [TwPost]
      have vs := vep_step v1 v2 v3 (by assumption) ⟨ks, rfl⟩
      refine' tw_end ⟨e + 1, _⟩ (by k_asm) (by k_asm) (fun _ hp => hp) True.intro ?kk ?kr vs ?km
      case kk =>
        refine List.forall_mem_cons.mpr ⟨?_, List.forall_mem_nil _⟩
        exact if_pos rfl
      case kr => (intro y hy hc; simp only [List.forall_mem_cons, List.not_mem_nil, false_implies, implies_true, and_true, ne_eq] at hy; simp only [hy, hc, if_false, Bool.false_eq_true])
      case km =>
        have := vs.2.1
        rw [hl9] at this
        dsimp only; omega
end
section
theorem strs_at : ∀ {vs : List Value} {ts : List PySem.Str}, StrsAre vs ts → ∀ j, j < ts.length → ∃ t, vs[j]? = some (.str (ts.getD j (PySem.Str.ofString "")) t)
  | _, _, .nil, j, h => absurd h (Nat.not_lt_zero _)
  | _, _, .cons y t r, 0, _ => ⟨t, rfl⟩
  | _, _, .cons y t r, j + 1, h => strs_at r j (Nat.lt_of_succ_lt_succ h)
theorem strs_len : ∀ {vs : List Value} {ts : List PySem.Str}, StrsAre vs ts → vs.length = ts.length
  | _, _, .nil => rfl
  | _, _, .cons y t r => congrArg (· + 1) (strs_len r)
theorem item_strs {prog : Program} {w : World} {A : Around} {E : Value → Shared → Prop} {s : Shared} {h₀ : Heap} {La l : Addr} {news : List (Addr × Obj)} {n : Nat} {u : Tok} {vs : List Value} {ts : List PySem.Str} {k : Int} {Q : Value → Shared → Prop} {value slice : Expr} (N : News h₀ La s.heap news) (hb : (l, listOf vs.toArray n) ∈ news) (hi : StrsAre vs ts) (h0 : 0 ≤ k) (h1 : k < ts.length) (hz : ts.length ≤ 100) (h : ∀ t, Q (.str (ts.getD k.toNat (PySem.Str.ofString "")) t) s)
    (hs : subscripted slice false (.ref l) (.int k u) = operate [.ref l, .int k u] (getItem (.ref l) (.int k u)) := by with_unfolding_all rfl) (hg : ∀ r, letTemporaryGo value (.ref l) r = pure () := by intro _; with_unfolding_all rfl) :
    wpAny (model prog w) A (subscriptTail value slice (.ref l) (.int k u)) Q E s := by
  obtain ⟨t, ht⟩ := strs_at hi k.toNat (by omega)
  exact item_anyN k.toNat N hb (by omega) ht (by rw [strs_len hi]; exact hz) (h t) hs hg
def nearT : List PySem.Str := [PySem.Str.ofString "\t", PySem.Str.ofString " \t", PySem.Str.ofString "  \t", PySem.Str.ofString "   "]
def farT : List PySem.Str := [PySem.Str.ofString "   \t", PySem.Str.ofString "  \t  ", PySem.Str.ofString "\t\t", PySem.Str.ofString "     "]
/-- the k-th piece of a drawing -/
def pieceT (r : Int) (k : Nat) : PySem.Str := (if k = 0 ∨ k = 3 then nearT else farT).getD ((r.fdiv (4 ^ k)).fmod 4).toNat (PySem.Str.ofString "")
def signT : PySem.Str := PySem.Str.ofString "\"a\n\t+"
/-- the k-th sign of the own text -/
def ownT (r : Int) (k : Nat) : PySem.Str := PySem.Txt.item signT (((r.fdiv 4).fdiv (5 ^ k)).fmod 5)
theorem fmod4 (x : Int) : 0 ≤ x.fmod 4 ∧ x.fmod 4 < 4 := by rw [Int.fmod_eq_emod_of_nonneg _ (by decide)]; omega
theorem fmod5 (x : Int) : 0 ≤ x.fmod 5 ∧ x.fmod 5 < 5 := by rw [Int.fmod_eq_emod_of_nonneg _ (by decide)]; omega
theorem four_of {y : Int} (h : 0 ≤ y ∧ y < 4) : y = 0 ∨ y = 1 ∨ y = 2 ∨ y = 3 := by
  obtain ⟨n, rfl⟩ := Int.eq_ofNat_of_zero_le h.1
  have key : ∀ n : Nat, n < 4 → ((n : Int) = 0 ∨ (n : Int) = 1 ∨ (n : Int) = 2 ∨ (n : Int) = 3) := by decide
  exact key n (Int.ofNat_lt.1 h.2)
theorem five_of {y : Int} (h : 0 ≤ y ∧ y < 5) : y = 0 ∨ y = 1 ∨ y = 2 ∨ y = 3 ∨ y = 4 := by
  obtain ⟨n, rfl⟩ := Int.eq_ofNat_of_zero_le h.1
  have key : ∀ n : Nat, n < 5 → ((n : Int) = 0 ∨ (n : Int) = 1 ∨ (n : Int) = 2 ∨ (n : Int) = 3 ∨ (n : Int) = 4) := by decide
  exact key n (Int.ofNat_lt.1 h.2)
theorem six_of {y : Int} (h : 0 ≤ y ∧ y < 6) : y = 0 ∨ y = 1 ∨ y = 2 ∨ y = 3 ∨ y = 4 ∨ y = 5 := by
  obtain ⟨n, rfl⟩ := Int.eq_ofNat_of_zero_le h.1
  have key : ∀ n : Nat, n < 6 → ((n : Int) = 0 ∨ (n : Int) = 1 ∨ (n : Int) = 2 ∨ (n : Int) = 3 ∨ (n : Int) = 4 ∨ (n : Int) = 5) := by decide
  exact key n (Int.ofNat_lt.1 h.2)
theorem fmod6 (x : Int) : 0 ≤ x.fmod 6 ∧ x.fmod 6 < 6 := by rw [Int.fmod_eq_emod_of_nonneg _ (by decide)]; omega
theorem comp_tail {h₀ h' : Heap} {L I C D : Addr} {m : PySem.Str → Option Value} {s₁ : Shared} {oI oC oD : Obj} {rest : Value → List (Addr × Obj) → Prop} {y : Value} {tk : Nat} {x : Addr × Obj} {news' : List (Addr × Obj)}
    (F : Fr h₀ L h' m) (N : News h₀ L h' (x :: (I, oI) :: (C, oC) :: (D, oD) :: news')) (off : LCg.Off3 I C D news') (r : rest y news') : LCg.CompEnd h₀ L m s₁ I oI C oC D oD (fun _ => True) rest y { s₁ with heap := h', toks := tk } :=
  LCg.CompEnd.intro F N news' (fun _ hp => .tail _ hp) off True.intro r
theorem comp_tail0 {h₀ h' : Heap} {L I C D : Addr} {m : PySem.Str → Option Value} {s₁ : Shared} {oI oC oD : Obj} {rest : Value → List (Addr × Obj) → Prop} {y : Value} {tk : Nat} {news' : List (Addr × Obj)}
    (F : Fr h₀ L h' m) (N : News h₀ L h' ((I, oI) :: (C, oC) :: (D, oD) :: news')) (off : LCg.Off3 I C D news') (r : rest y news') : LCg.CompEnd h₀ L m s₁ I oI C oC D oD (fun _ => True) rest y { s₁ with heap := h', toks := tk } :=
  LCg.CompEnd.intro F N news' (fun _ hp => hp) off True.intro r
theorem sign_len (x : Int) : (PySem.Txt.item signT (x.fmod 5)).length = 1 := by
  have h := fmod5 x
  generalize x.fmod 5 = y at h
  obtain rfl | rfl | rfl | rfl | rfl : y = 0 ∨ y = 1 ∨ y = 2 ∨ y = 3 ∨ y = 4 := five_of h
  all_goals decide +kernel
theorem own_sum (r : Int) : ∀ n, (((List.range n).map (ownT r)).map (·.length)).sum = n
  | 0 => rfl
  | n + 1 => by rw [List.range_succ, List.map_append, List.map_append, List.sum_append, own_sum r n]; simp [ownT, sign_len]
theorem own_weight {r : Int} {n : Nat} (h : n ≤ 3) : (((List.range n).map (ownT r)).map (·.length)).sum + ((List.range n).map (ownT r)).length ≤ 1048576 := by
  rw [own_sum, List.length_map, List.length_range]; omega
theorem item_piece {prog : Program} {w : World} {A : Around} {E : Value → Shared → Prop} {s : Shared} {h₀ : Heap} {La l : Addr} {news : List (Addr × Obj)} {n : Nat} {u : Tok} {vs : List Value} {f : Nat → PySem.Str} {k : Int} {Q : Value → Shared → Prop} {value slice : Expr} (hi : StrsAre vs ((List.range 4).map f)) (j : Nat) (N : News h₀ La s.heap news) (hb : (l, listOf vs.toArray n) ∈ news) (hj : j < 4) (e : k = (j : Int)) (h : ∀ t, Q (.str (f j) t) s)
    (hs : subscripted slice false (.ref l) (.int k u) = operate [.ref l, .int k u] (getItem (.ref l) (.int k u)) := by with_unfolding_all rfl) (hg : ∀ r, letTemporaryGo value (.ref l) r = pure () := by intro _; with_unfolding_all rfl) :
    wpAny (model prog w) A (subscriptTail value slice (.ref l) (.int k u)) Q E s := by
  subst e
  refine item_strs N hb hi (Int.natCast_nonneg _) ?_ (by rw [List.length_map, List.length_range]; decide) (fun t => ?_) hs hg
  · rw [List.length_map, List.length_range]; omega
  · have : ((List.range 4).map f).getD (Int.toNat j) (PySem.Str.ofString "") = f j := by
      rw [Int.toNat_natCast, List.getD_eq_getElem?_getD, List.getElem?_map, List.getElem?_range hj]; rfl
    rw [this]; exact h t
/-- the own text -/
def ownOf (r : Int) (n : Nat) : PySem.Str := PySem.Txt.join (PySem.Str.ofString "") ((List.range n).map (ownT r))
theorem own_len (r : Int) (n : Nat) : (ownOf r n).length = n := by
  unfold ownOf
  rw [KT.join_ones _ (fun a ha => by obtain ⟨b, _, eb⟩ := List.mem_map.1 ha; rw [← eb]; exact sign_len _), List.length_map, List.length_range]
theorem piece_len (r : Int) (k : Nat) : (pieceT r k).length ≤ 5 := by
  unfold pieceT
  have h := fmod4 (r.fdiv (4 ^ k))
  generalize (r.fdiv (4 ^ k)).fmod 4 = y at h
  obtain rfl | rfl | rfl | rfl : y = 0 ∨ y = 1 ∨ y = 2 ∨ y = 3 := four_of h
  all_goals (split <;> decide +kernel)
theorem qd_len9 {x : PySem.Str} {n : Nat} (h : x.length = n) (hn : n ≤ 3) : (tx (qd (sg x))).length ≤ 8 := by
  rw [tx_len]
  unfold qd
  rw [List.length_cons, List.length_append]
  have := dbl_le 34 (sg x)
  have e : (sg x).length = n := by rw [← sg_len]; exact h
  simp only [List.length_cons, List.length_nil]
  omega
/-! lengths of glued texts -/
theorem len_add {x y : PySem.Str} {a b : Nat} (hx : x.length ≤ a) (hy : y.length ≤ b) : (x ++ y).length ≤ a + b := by
  rw [PySem.Str.length_append]; omega
theorem len_lit {x : PySem.Str} (a : Nat) (h : x.length = a) : x.length ≤ a := Nat.le_of_eq h
section
variable {prog : Program} {w : World} {A : Around} {E : Value → Shared → Prop} {s : Shared} {t u : Tok} {Q : Value → Shared → Prop}
theorem addS {x y : PySem.Str} {a b : Nat} (hx : x.length ≤ a) (hy : y.length ≤ b) (hz : Nat.ble (a + b) 16777216 = true) (h : ∀ t' k, Q (.str (x ++ y) t') { s with toks := k }) : wpAny (model prog w) A (binaryOp .Add (.str x t) (.str y u)) Q E s :=
  KOpn.add (Nat.le_trans (Nat.add_le_add hx hy) (Nat.le_of_ble_eq_true hz)) fun t' k _ => h t' k
/-- an either-or of texts, its ways met -/
def StrJoin (r : PySem.Str) (s : Shared) (v : Value) (s' : Shared) : Prop := ∃ t tk, v = .str r t ∧ s' = { s with toks := tk }
theorem join_str {env : Env} {test body orelse : Expr} {pos : Pos} (r : PySem.Str) (h1 : wpAny (model prog w) A (eval (.IfExp test body orelse pos) env) (StrJoin r s) E s) (h2 : ∀ t tk, Q (.str r t) { s with toks := tk }) : wpAny (model prog w) A (eval (.IfExp test body orelse pos) env) Q E s :=
  wpAny_mono h1 (fun v s' ⟨t, tk, e1, e2⟩ => by rw [e1, e2]; exact h2 t tk) fun _ _ e => e
theorem strJoin_mk {r r' : PySem.Str} {t : Tok} {tk : Nat} (e : r' = r) : StrJoin r s (.str r' t) { s with toks := tk } := ⟨t, tk, by rw [e], rfl⟩
end
/-- the heads of the six kinds -/
def headL (row : PySem.Str) : List PySem.Str := [PySem.Str.ofString "", PySem.Str.ofString "+\n", PySem.Str.ofString "+\n" ++ row ++ PySem.Str.ofString "\n", PySem.Str.ofString "*\n", PySem.Str.ofString ">\n", PySem.Str.ofString "@\n"]
def headT (kind : Int) (row : PySem.Str) : PySem.Str := (headL row).getD kind.toNat (PySem.Str.ofString "")
theorem headT_len {kind : Int} {row : PySem.Str} {n : Nat} (h : row.length ≤ n) : (headT kind row).length ≤ n + 3 := by
  unfold headT headL
  have e1 : (PySem.Str.ofString "+\n").length = 2 := by decide +kernel
  have e2 : (PySem.Str.ofString "\n").length = 1 := by decide +kernel
  have e3 : (PySem.Str.ofString "*\n").length = 2 := by decide +kernel
  have e4 : (PySem.Str.ofString "").length = 0 := by decide +kernel
  have e5 : (PySem.Str.ofString ">\n").length = 2 := by decide +kernel
  have e6 : (PySem.Str.ofString "@\n").length = 2 := by decide +kernel
  generalize kind.toNat = k
  rcases k with _ | _ | _ | _ | _ | _ | k
  · show (PySem.Str.ofString "").length ≤ _; omega
  · show (PySem.Str.ofString "+\n").length ≤ _; omega
  · show (PySem.Str.ofString "+\n" ++ row ++ PySem.Str.ofString "\n").length ≤ _
    rw [PySem.Str.length_append, PySem.Str.length_append]; omega
  · show (PySem.Str.ofString "*\n").length ≤ _; omega
  · show (PySem.Str.ofString ">\n").length ≤ _; omega
  · show (PySem.Str.ofString "@\n").length ≤ _; omega
  · show (PySem.Str.ofString "").length ≤ _; omega
/-- what a cell draws -/
def dKind (c : Int) : Int := c.fmod 6
def dOwn (c : Int) : PySem.Str := ownOf ((c.fdiv 6).fdiv 256) (((c.fdiv 6).fdiv 256).fmod 4).toNat
def dRow (c : Int) : PySem.Str := pieceT (c.fdiv 6) 3 ++ tx (qd (sg (dOwn c)))
def dBase (c : Int) : PySem.Str := if 0 < dKind c then pieceT (c.fdiv 6) 0 else PySem.Str.ofString ""
def dC0 (c : Int) : PySem.Str := headT (dKind c) (dRow c) ++ dBase c ++ PySem.Str.ofString "%\n" ++ dBase c ++ pieceT (c.fdiv 6) 1
def dC1 (c : Int) : PySem.Str := PySem.Str.ofString "\n" ++ dBase c ++ pieceT (c.fdiv 6) 2
def dC2 (c : Int) : PySem.Str := if dKind c = 0 ∨ dKind c = 2 then PySem.Str.ofString "" else PySem.Str.ofString "\n" ++ dRow c
/-- it hands back a drawing -/
abbrev GivesDrawn (c : Int) (news : List (Addr × Obj)) (h₀ : Heap) (La : Addr) (m : PySem.Str → Option Value) (s : Shared) (Q _E : Value → Shared → Prop) : Prop :=
  ∀ (a lc : Addr) (t0 t1 t2 t3 t4 : Tok) (n : Nat) (h' : Heap) (tk' : Nat), (∀ p ∈ news, p.1 < lc) → lc < a → Fr h₀ La h' m →
    News h₀ La h' ((a, tupO [.int (dKind c) t0, .str (dOwn c) t1, .ref lc] 0) :: (lc, listOf #[.str (dC0 c) t2, .str (dC1 c) t3, .str (dC2 c) t4] n) :: news) → Q (.ref a) { s with heap := h', toks := tk' }
theorem all_l9 {D : Addr} {news : List (Addr × Obj)} {a1 a2 a3 a4 a5 a6 a7 a8 a9 : Prop} (h : a1 ∧ a2 ∧ a3 ∧ a4 ∧ a5 ∧ a6 ∧ a7 ∧ a8 ∧ a9 ∧ AllLt D news) : ∀ p ∈ news, p.1 < D := kst_ltOf h.2.2.2.2.2.2.2.2.2
theorem drawn_end {c : Int} {news news' : List (Addr × Obj)} {h₀ h' : Heap} {La : Addr} {m : PySem.Str → Option Value} {s : Shared} {Q E : Value → Shared → Prop} (hret : GivesDrawn c news h₀ La m s Q E) {a lc : Addr} {own c0 c1 c2 : PySem.Str} {t0 t1 t2 t3 t4 : Tok} {n tk' : Nat}
    (F : Fr h₀ La h' m) (N : News h₀ La h' ((a, tupO [.int (c.fmod 6) t0, .str own t1, .ref lc] 0) :: (lc, listOf #[.str c0 t2, .str c1 t3, .str c2 t4] n) :: news')) (hm : ∀ p ∈ news, p ∈ news') (hl : ∀ p ∈ news, p.1 < lc) (ha : lc < a)
    (e0 : own = dOwn c) (e1 : c0 = dC0 c) (e2 : c1 = dC1 c) (e3 : c2 = dC2 c) : Q (.ref a) { s with heap := h', toks := tk' } := by
  subst e0 e1 e2 e3
  refine hret a lc t0 t1 t2 t3 t4 n h' tk' hl ha F fun p hp => N p ?_
  rcases List.mem_cons.mp hp with rfl | hp
  · exact .head _
  · rcases List.mem_cons.mp hp with rfl | hp
    · exact .tail _ (.head _)
    · exact .tail _ (.tail _ (hm p hp))
end
section
set_option maxHeartbeats 4000000 in
theorem drawn_c {w : World} {c : Int} {t0 : Tok} {news : List (Addr × Obj)} (h0 : 0 ≤ c) (h1 : c < 1000000) :
    Fn w 190 3 60 [.int c t0] news (GivesDrawn c news) := by
  intro mean mg mb dp un gd cn cs a ccd cl outer A₀ base h₀ La m s Q E B F X N T hk hd hu hret
  k_with_none
  w_top off
  k_with "k_all" => (first | assumption | exact off1_mem (by assumption))
  k_with "k_ne" => (first | with_reducible assumption | (with_reducible exact Ne.symm (by assumption)) | exact Nat.ne_of_lt (by assumption) | exact Nat.ne_of_gt (by assumption) | (refine neN ?_; (try dsimp only); simp; done))
  refine wpAny_call ?_
  k_dflt (refine' code_defC ?k1 ?k2 ?k3 ?k4 ?k5 ?kA ?kF ?kK ?k6 ?k7 ?k8 ?k9 ?kB ?kD ?_ ?c2 ?c3 ?c4; (case kA => exact rfl); (case kF => exact rfl); (case kK => assumption); (case k1 => k_asm); (case k2 => k_asm); (case k3 => k_asm); (case k4 => k_asm); (case k5 => k_asm); (case k6 => k_is); (case k7 => k_is); (case k8 => ktr_room); (case k9 => exact BindsTo.of_eq rfl); (case kB => exact rfl); (case kD => decide +kernel); (case c2 => exact rfl); (case c3 => exact rfl); (case c4 => exact rfl); k_whole)
  intro g' L' h' tk' cells' FG' F' N' Y' B' X' T' l1
  (try k_lt l1)
  have nc1 : ∀ p ∈ news, p.1 ≠ L' + 1 := fun p hp => Nat.ne_of_lt (Nat.lt_succ_of_lt (l1 p hp))
  have nc2 : ∀ p ∈ news, p.1 ≠ L' + 1 + 1 := fun p hp => Nat.ne_of_lt (Nat.lt_succ_of_lt (Nat.lt_succ_of_lt (l1 p hp)))
  have nc3 : ∀ p ∈ news, p.1 ≠ L' + 1 + 1 + 1 := fun p hp => Nat.ne_of_lt (Nat.lt_succ_of_lt (Nat.lt_succ_of_lt (Nat.lt_succ_of_lt (l1 p hp))))
  k_cells Y'
  (try simp only [List.cons_append, List.nil_append] at N')
  (try dsimp only)
  (try k_lift B')
  (try k_fold)
  k_with "CompSrc" => (k_dflt (refine' LCg.CompSrc.range (n := 4) ?hh ?F ?N ?hr ?sm ?sz ?ln ?_; (case hh => rfl); (case F => k_asm); (case N => k_asm); (case hr => assumption); (case sm => decide); (case sz => first | rfl | decide); (case ln => first | size_fits | exact Nat.le_of_ble_eq_true rfl)); intro g5; refine' rest_strs (pieceT (c.fdiv 6)) 4 (fun i5 t5 I5 oI5 C5 oC5 D5 m5 ys5 h5 tk5 E5 hi5 hC5 hx5 F5 N5 off5 ne5 => ?_) ?_; all_goals (try (obtain rfl | rfl | rfl | rfl : i5 = 0 ∨ i5 = 1 ∨ i5 = 2 ∨ i5 = 3 := by omega)); all_goals (try simp at hx5); all_goals (try (have of5 := off5; simp only [LCg.Off3, and_true] at of5)))
  k_with "IT1" => (k_here; (with_reducible show wpAny _ _ (subscriptTail _ _ (Value.ref _) (Value.int (Int.fmod _ 4) _)) _ _ _); k_dflt (refine' item_strs ?N ?xm ?xi ?xa ?xb ?xc ?_; (case N => k_asm); (case xm => k_mem); (case xi => exact .cons _ _ (.cons _ _ (.cons _ _ (.cons _ _ .nil)))); (case xa => exact (fmod4 _).1); (case xb => exact (fmod4 _).2); (case xc => decide)); intro t9; (try dsimp only); (try k_fold))
  k_with "subscriptTail Name Name ref int" => walk_at "IT1"
  k_with "subscriptTail Name Constant ref int" => walk_at "IT1"
  k_with "subscriptTail Subscript BinOp ref int" => walk_at "IT1"
  k_with "subscriptTail Name BinOp ref int" => walk_at "IT1"
  k_with "subscriptTail" => walk_at "IT1"
  k_with "StrTurn" => (k_dflt (exact ⟨rfl, _, rfl⟩))
  k_with "CompEnd" => (first | (refine' comp_tail ?xF ?xN off5 ?_; (case xF => k_asm); (case xN => k_asm)) | (refine' comp_tail0 ?xF ?xN off5 ?_; (case xF => k_asm); (case xN => k_asm)))
  k_steps
  unfold StrFin
  intro ys hys
  have hr4 := fmod4 ((c.fdiv 6).fdiv 256)
  obtain ⟨nr, hnr⟩ : ∃ nr : Nat, nr = (((c.fdiv 6).fdiv 256).fmod 4).toNat := ⟨_, rfl⟩
  have hnr3 : nr ≤ 3 := by omega
  have hnr' : ((c.fdiv 6).fdiv 256).fmod 4 = (nr : Int) := by omega
  k_with "CompSrc" => (k_dflt (refine' LCg.CompSrc.range (n := nr) ?hh ?F ?N ?hr ?sm ?sz ?ln ?_; (case hh => rfl); (case F => k_asm); (case N => k_asm); (case hr => assumption); (case sm => rw [hnr']; exact small_one (by omega) (by omega) (by omega) (by omega)); (case sz => rw [rangeSize_nat, hnr']; omega); (case ln => exact Nat.le_trans hnr3 (by first | size_fits | exact Nat.le_of_ble_eq_true rfl))); intro g5; refine' rest_strs (ownT ((c.fdiv 6).fdiv 256)) nr (fun i5 t5 I5 oI5 C5 oC5 D5 m5 ys5 h5 tk5 E5 hi5 hC5 hx5 F5 N5 off5 ne5 => ?_) ?_; all_goals (try (obtain rfl | rfl | rfl : i5 = 0 ∨ i5 = 1 ∨ i5 = 2 := by omega)); all_goals (try simp at hx5); all_goals (try (have of5 := off5; simp only [LCg.Off3, and_true] at of5)))
  k_steps
  unfold StrFin
  intro zs hzs
  k_with "call builtin:str.join" => (k_here; k_dflt (refine' join_listW ?xl hzs ?xs ?xw ?_; (case xl => exact News.isList (by k_asm) (List.Mem.head _)); (case xs => decide +kernel); (case xw => exact own_weight hnr3)); intro t9 k9; (try dsimp only); (try k_fold))
  k_with "IT2" => (k_here; (with_reducible show wpAny _ _ (subscriptTail _ _ (Value.ref _) (Value.int _ _)) _ _ _); k_dflt (first | (refine' item_piece hys 0 ?N ?xm ?xj ?xe ?_; (case N => k_asm); (case xm => k_mem); (case xj => decide); (case xe => decide)) | (refine' item_piece hys 1 ?N ?xm ?xj ?xe ?_; (case N => k_asm); (case xm => k_mem); (case xj => decide); (case xe => decide)) | (refine' item_piece hys 2 ?N ?xm ?xj ?xe ?_; (case N => k_asm); (case xm => k_mem); (case xj => decide); (case xe => decide)) | (refine' item_piece hys 3 ?N ?xm ?xj ?xe ?_; (case N => k_asm); (case xm => k_mem); (case xj => decide); (case xe => decide))); intro t9; (try dsimp only); (try k_fold))
  k_with "subscriptTail Name Name ref int" => walk_at "IT2"
  k_with "subscriptTail Name Constant ref int" => walk_at "IT2"
  k_with "subscriptTail Subscript BinOp ref int" => walk_at "IT2"
  k_with "subscriptTail Name BinOp ref int" => walk_at "IT2"
  k_with "subscriptTail" => walk_at "IT2"
  have hol := own_len ((c.fdiv 6).fdiv 256) nr
  have p0l := piece_len (c.fdiv 6) 0
  have p1l := piece_len (c.fdiv 6) 1
  have p2l := piece_len (c.fdiv 6) 2
  have p3l := piece_len (c.fdiv 6) 3
  unfold ownOf at hol
  have hq8 := qd_len9 hol hnr3
  have hol3 : (PySem.Txt.join (PySem.Str.ofString "") ((List.range nr).map (ownT ((c.fdiv 6).fdiv 256)))).length ≤ 3 := Nat.le_trans (Nat.le_of_eq hol) hnr3
  have lt1 : (PySem.Str.ofString "+\n").length ≤ 2 := by decide +kernel
  have lt2 : (PySem.Str.ofString "\n").length ≤ 1 := by decide +kernel
  have lt3 : (PySem.Str.ofString "%\n").length ≤ 2 := by decide +kernel
  have lt4 : (PySem.Str.ofString "").length ≤ 0 := by decide +kernel
  k_with "LELEN" => (first | with_reducible assumption | (with_reducible apply len_add <;> walk_at "LELEN"))
  k_with "binaryOp Add str str" => (k_here; (with_reducible show wpAny _ _ (binaryOp Operator.Add (Value.str _ _) (Value.str _ _)) _ _ _); k_dflt (refine' addS ?xx ?xy ?xz ?_; (case xx => walk_at "LELEN"); (case xy => walk_at "LELEN"); (case xz => exact rfl)); intro t9 k9; (try dsimp only); (try k_fold))
  k_with "call ref" => (k_here; (with_reducible show wpAny _ _ (call (Value.ref 185) _) _ _ _); k_dflt (refine' quoted_c ?xa ?B ?F ?X ?N ?T ?hk ?hd ?hu ?_; (case F => k_asm); (case N => k_asm); (case xa => exact Nat.le_trans (Nat.le_of_eq hol) (Nat.le_trans hnr3 (by decide))); (case B => k_asm); (case X => k_asm); (case T => k_asm); (case hk => first | exact rfl | assumption); (case hd => ktr_room); (case hu => ktr_units)); intro t9 h9 tk9 F9 N9; (try dsimp only); (try k_fold))
  have hbl : (if 0 < c.fmod 6 then pieceT (c.fdiv 6) 0 else PySem.Str.ofString "").length ≤ 5 := by
    split
    · exact p0l
    · exact Nat.le_trans lt4 (by decide)
  have hhl : ((headL (pieceT (c.fdiv 6) 3 ++ tx (qd (sg (PySem.Txt.join (PySem.Str.ofString "") ((List.range nr).map (ownT ((c.fdiv 6).fdiv 256)))))))).getD (c.fmod 6).toNat (PySem.Str.ofString "")).length ≤ 16 := headT_len (kind := c.fmod 6) (len_add p3l hq8)
  k_with "StrJoin" => (first | exact strJoin_mk (if_pos (by omega)).symm | exact strJoin_mk (if_neg (by omega)).symm)
  k_with "eval IfExp" => (k_here; (fail_if_success (with_reducible show wpAny _ _ _ (StrJoin _ _) _ _)); (first | ((with_reducible show wpAny _ _ (eval (Expr.IfExp (Expr.Compare _ _ _ _) _ _ _) _) _ _ _); refine join_str (if 0 < c.fmod 6 then pieceT (c.fdiv 6) 0 else PySem.Str.ofString "") ?_ ?_) | refine join_str (if c.fmod 6 = 0 ∨ c.fmod 6 = 2 then PySem.Str.ofString "" else PySem.Str.ofString "\n" ++ (pieceT (c.fdiv 6) 3 ++ tx (qd (sg (PySem.Txt.join (PySem.Str.ofString "") ((List.range nr).map (ownT ((c.fdiv 6).fdiv 256)))))))) ?_ ?_); rotate_left 1; intro t9 k9; rotate_right 1)
  k_with "IT3" => (k_here; (with_reducible show wpAny _ _ (subscriptTail _ _ (Value.ref _) (Value.int (Int.fmod _ 6) _)) _ _ _); k_dflt (refine' item_strs (ts := headL (pieceT (c.fdiv 6) 3 ++ tx (qd (sg (PySem.Txt.join (PySem.Str.ofString "") ((List.range nr).map (ownT ((c.fdiv 6).fdiv 256)))))))) ?N ?xm ?xi ?xa ?xb ?xc ?_; (case N => k_asm); (case xm => k_mem); (case xi => exact .cons _ _ (.cons _ _ (.cons _ _ (.cons _ _ (.cons _ _ (.cons _ _ .nil)))))); (case xa => exact (fmod6 _).1); (case xb => exact (fmod6 _).2); (case xc => exact Nat.le_of_ble_eq_true rfl)); intro t9; (try dsimp only); (try k_fold))
  k_with "subscriptTail Name Name ref int" => walk_at "IT3"
  k_with "subscriptTail Name Constant ref int" => walk_at "IT3"
  k_with "subscriptTail Subscript BinOp ref int" => walk_at "IT3"
  k_with "subscriptTail Name BinOp ref int" => walk_at "IT3"
  k_with "subscriptTail" => walk_at "IT3"
  k_steps
  rename News h₀ La _ _ => kN9
  refine' drawn_end hret (by k_asm) kN9 ?hm ?hl ?ha ?e0 ?e1 ?e2 ?e3
  case hm => (intro p hp; repeat' (first | exact hp | refine List.Mem.tail _ ?_))
  case hl => exact all_l9 (by assumption)
  case ha => exact And.left (by assumption)
  case e0 => (subst hnr; rfl)
  case e1 => (subst hnr; rfl)
  case e2 => (subst hnr; rfl)
  case e3 => (subst hnr; rfl)
end
section
theorem dRow_len (c : Int) : (dRow c).length ≤ 13 := by
  unfold dRow
  refine len_add (piece_len _ _) (qd_len9 (own_len _ _) ?_)
  have := fmod4 ((c.fdiv 6).fdiv 256); omega
theorem lit_len {x : PySem.Str} {n : Nat} (h : decide (x.length ≤ n) = true) : x.length ≤ n := of_decide_eq_true h
theorem l_empty : (PySem.Str.ofString "").length ≤ 0 := lit_len (by decide +kernel)
theorem l_feed : (PySem.Str.ofString "\n").length ≤ 1 := lit_len (by decide +kernel)
theorem l_pctf : (PySem.Str.ofString "%\n").length ≤ 2 := lit_len (by decide +kernel)
theorem l_pcts : (PySem.Str.ofString "%s").length ≤ 2 := lit_len (by decide +kernel)
theorem dBase_len (c : Int) : (dBase c).length ≤ 5 := by
  unfold dBase; split
  · exact piece_len _ _
  · exact Nat.le_trans l_empty (by decide)
theorem dC0_len (c : Int) : (dC0 c).length ≤ 33 := len_add (b := 5) (len_add (b := 5) (len_add (b := 2) (len_add (b := 5) (headT_len (dRow_len c)) (dBase_len c)) l_pctf) (dBase_len c)) (piece_len _ _)
theorem dC1_len (c : Int) : (dC1 c).length ≤ 11 := len_add (len_add l_feed (dBase_len c)) (piece_len _ _)
theorem dC2_len (c : Int) : (dC2 c).length ≤ 14 := by
  unfold dC2; split
  · exact Nat.le_trans l_empty (by decide)
  · exact len_add l_feed (dRow_len c)
theorem dbl_len2 {c n : Nat} {x : PySem.Str} (h : x.length ≤ n) : (tx (dbl c (sg x))).length ≤ 2 * n := by
  rw [tx_len]; have := dbl_le c (sg x); rw [← sg_len] at this; omega
theorem qd_len2 {n : Nat} {x : PySem.Str} (h : x.length ≤ n) : (tx (qd (sg x))).length ≤ 2 * n + 2 := by
  rw [tx_len]; unfold qd; have := dbl_le 34 (sg x); rw [← sg_len] at this
  simp only [List.length_cons, List.length_append, List.length_nil]; omega
/-- a page's form -/
def formT (c : Int) : PySem.Str := tx (dbl 37 (sg (dC0 c))) ++ PySem.Str.ofString "%s" ++ dC1 c ++ PySem.Str.ofString "%s" ++ dC2 c
theorem formT_len (c : Int) : (formT c).length ≤ 95 := len_add (len_add (len_add (len_add (dbl_len2 (dC0_len c)) l_pcts) (dC1_len c)) l_pcts) (dC2_len c)
/-- the page of c beside that of d -/
def pageT (c d : Int) : PySem.Str := dC0 c ++ tx (qd (sg (formT d))) ++ dC1 c ++ tx (qd (sg (formT c))) ++ dC2 c
theorem pageT_len (c d : Int) : (pageT c d).length ≤ 442 := len_add (len_add (len_add (len_add (dC0_len c) (qd_len2 (formT_len d))) (dC1_len c)) (qd_len2 (formT_len c))) (dC2_len c)
end
section
section
variable {prog : Program} {w : World} {A : Around} {E : Value → Shared → Prop} {s : Shared} {h₀ : Heap} {L l : Addr} {news : List (Addr × Obj)} {m : PySem.Str → Option Value} {Q : Value → Shared → Prop} {vs : List Value} {ns : List Int}
theorem sumL (hh : A.handled = none) (F : Fr h₀ L s.heap m) (N : News h₀ L s.heap news) (hl : s.heap.IsList l vs.toArray) (hi : IntsAre vs ns)
    (h : ∀ h' tk t', Fr h₀ L h' m → News h₀ L h' news → Q (.int ns.sum t') { s with heap := h', toks := tk }) : wpAny (model prog w) A (call (.builtin "sum") [.ref l]) Q E s := by
  obtain ⟨xs, hx⟩ := hi.allInts.items
  have hn : numsOf vs.toArray.toList = ns := by rw [show vs.toArray.toList = vs from rfl, hi.numsOf]
  rw [hx] at hl hn
  rw [nums_intItems] at hn
  refine sum_intListG hh hl fun h' tk t' hk => ?_
  have := h h' tk t' (F.keeps hk) (N.grown hk)
  rw [preSum_eq, List.take_of_length_le (by simp), hn]
  exact this
theorem step_slice {ops : List Value} {value slice : Expr} {a : Int} {ta tk : Tok} (F : Fr h₀ L s.heap m) (N : News h₀ L s.heap news) (hl : s.heap.IsList l vs.toArray) (hi : IntsAre vs ns) (hz : ns.length ≤ 1000)
    (h : ∀ D ws ms h', IntsAre ws ms → (∀ p ∈ news, p.1 < D) → Fr h₀ L h' m → News h₀ L h' ((D, listOf (List.toArray ws) 0) :: news) → Q (.ref D) { s with heap := h' })
    (hs : subscripted slice false (.ref l) (.ref s.heap.objs.size) = operate ops (getItem (.ref l) (.ref s.heap.objs.size))) (ht : ∀ r, letTemporaryGo value (.ref l) r = pure ()) :
    wpAny (model prog w) A (subscriptTail value slice (.ref l) (.ref s.heap.objs.size)) Q E { s with heap := s.heap.push { cls := .type "slice", data := .fields #[.int a ta, .none, .int 2 tk] } } := by
  refine slice_list3 F N hl (.int _ _) .none (.int _ _) (by decide) (fun h' F' N' => ?_) hs ht ?_
  · have lt : ∀ p ∈ news, p.1 < s.heap.objs.size + 1 := fun p hp => Nat.lt_succ_of_lt (Heap.lt_size (N p hp).1)
    unfold slicePick at N'
    simp only [List.getElem?_toArray] at N'
    exact h _ _ _ h' (hi.places _) lt F' N'
  · rw [List.size_toArray, hi.length]
    exact Nat.le_trans hz (by decide +kernel)
end
theorem fmodM (x : Int) : 0 ≤ x.fmod (10 ^ Int.toNat 6) ∧ x.fmod (10 ^ Int.toNat 6) < 1000000 := by
  rw [show ((10 : Int) ^ Int.toNat 6) = 1000000 by decide, Int.fmod_eq_emod_of_nonneg _ (by decide)]; omega
section
variable {prog : Program} {w : World} {A : Around} {E : Value → Shared → Prop} {s : Shared} {x : PySem.Str} {t u v : Tok} {Q : Value → Shared → Prop}
theorem pct_eq : PySem.Str.ofString "%" = ⟨#[37]⟩ := by decide +kernel
theorem pct2_eq : PySem.Str.ofString "%%" = ⟨#[37, 37]⟩ := by decide +kernel
theorem repl_pct (hu : u ≠ 0) (hv : v ≠ 0) (huv : u ≠ v) (hx : x.length ≤ 1000) (h : ∀ t' k, Q (.str (tx (dbl 37 (sg x))) t') { s with toks := k }) :
    wpAny (model prog w) A (call (.builtin "str.replace") [.str x t, .str (PySem.Str.ofString "%") u, .str (PySem.Str.ofString "%%") v]) Q E s := by
  refine SC.replaceW hu hv huv (by decide +kernel) (Nat.le_trans hx (by decide)) (by decide +kernel) fun t' k => ?_
  have e : PySem.Txt.replace x (PySem.Str.ofString "%") (PySem.Str.ofString "%%") = tx (dbl 37 (sg x)) := by
    apply sg_inj; rw [pct_eq, pct2_eq, sg_tx]; exact PySem.StrLaws.replace_double x 37
  rw [e]; exact h t' k
end
abbrev GivesDrawnAny (news : List (Addr × Obj)) (h₀ : Heap) (La : Addr) (m : PySem.Str → Option Value) (s : Shared) (Q E : Value → Shared → Prop) : Prop :=
  ∀ c, 0 ≤ c → c < 1000000 → GivesDrawn c news h₀ La m s Q E
theorem drawn_any {w : World} {c : Int} {t0 : Tok} {news : List (Addr × Obj)} : Fn w 190 3 60 [.int (c.fmod (10 ^ Int.toNat 6)) t0] news (GivesDrawnAny news) := by
  intro mean mg mb dp un gd cn cs a ccd cl outer A₀ base h₀ La m s Q E B F X N T hk hd hu hret
  exact drawn_c (fmodM c).1 (fmodM c).2 B F X N T hk hd hu (hret _ (fmodM c).1 (fmodM c).2)
/-- a drawing that the ledger bears -/
def DrawnAt (news : List (Addr × Obj)) (v : Value) (c : Int) : Prop := ∃ (a lc : Addr) (u0 u1 u2 u3 u4 : Tok) (n : Nat), v = .ref a ∧ (a, tupO [.int (dKind c) u0, .str (dOwn c) u1, .ref lc] 0) ∈ news ∧ (lc, listOf #[.str (dC0 c) u2, .str (dC1 c) u3, .str (dC2 c) u4] n) ∈ news
theorem law_led {P : Prop} {h₀ h : Heap} {L lD a0 lc0 a1 lc1 : Addr} {c0 c1 : Int} {s0 s1 s2 s3 s4 u0 u1 u2 u3 u4 : Tok} {n0 n1 : Nat} {oA oB : Obj} {x1 x2 x3 : Addr × Obj}
    (N : News h₀ L h [(lD, LCg.lst [.ref a0, .ref a1]), (a1, tupO [.int (dKind c1) u0, .str (dOwn c1) u1, .ref lc1] 0), (lc1, listOf #[.str (dC0 c1) u2, .str (dC1 c1) u3, .str (dC2 c1) u4] n1), (a0, tupO [.int (dKind c0) s0, .str (dOwn c0) s1, .ref lc0] 0), (lc0, listOf #[.str (dC0 c0) s2, .str (dC1 c0) s3, .str (dC2 c0) s4] n0), x1, x2, x3, (L + 1 + 1, oA), (L + 1, oB)])
    (e1 : @LT.lt Nat _ (L + 1 + 1) lc0) (e2 : @LT.lt Nat _ lc0 a0) (e3 : @LT.lt Nat _ (L + 1 + 1) lc1) (e4 : @LT.lt Nat _ lc1 a1) (e5 : @Ne Nat (L + 1 + 1) lD) (e6 : @Ne Nat (L + 1) lD)
    (h : ∀ (led : List (Addr × Obj)) (vD : Nat → Value) (cs : Nat → Int), News h₀ L h ((L + 1 + 1, oA) :: (L + 1, oB) :: led) → (lD, LCg.lst [vD 0, vD 1]) ∈ led → (∀ i, i < 2 → DrawnAt led (vD i) (cs i)) → (∀ p ∈ led, p.1 ≠ L + 1 + 1) → (∀ p ∈ led, p.1 ≠ L + 1) → P) : P := by
  have d1 : @LT.lt Nat _ (L + 1) lc0 := Nat.lt_trans (Nat.lt_succ_self _) e1
  have d3 : @LT.lt Nat _ (L + 1) lc1 := Nat.lt_trans (Nat.lt_succ_self _) e3
  refine h [(lD, LCg.lst [.ref a0, .ref a1]), (a1, tupO [.int (dKind c1) u0, .str (dOwn c1) u1, .ref lc1] 0), (lc1, listOf #[.str (dC0 c1) u2, .str (dC1 c1) u3, .str (dC2 c1) u4] n1), (a0, tupO [.int (dKind c0) s0, .str (dOwn c0) s1, .ref lc0] 0), (lc0, listOf #[.str (dC0 c0) s2, .str (dC1 c0) s3, .str (dC2 c0) s4] n0)] (fun i => if i = 0 then .ref a0 else .ref a1) (fun i => if i = 0 then c0 else c1) ?_ (.head _) ?_ ?_ ?_
  · intro p hp
    refine N p ?_
    simp only [List.mem_cons, List.not_mem_nil, or_false] at hp ⊢
    rcases hp with h | h | h | h | h | h | h <;> simp only [h, true_or, or_true]
  · intro i hi
    by_cases q : i = 0
    · simp only [q, if_true]
      exact ⟨a0, lc0, s0, s1, s2, s3, s4, n0, rfl, .tail _ (.tail _ (.tail _ (.head _))), .tail _ (.tail _ (.tail _ (.tail _ (.head _))))⟩
    · simp only [q, if_false]
      exact ⟨a1, lc1, u0, u1, u2, u3, u4, n1, rfl, .tail _ (.head _), .tail _ (.tail _ (.head _))⟩
  · simp only [List.forall_mem_cons, List.not_mem_nil, false_implies, implies_true, and_true]
    exact ⟨Ne.symm e5, Nat.ne_of_gt (Nat.lt_trans e3 e4), Nat.ne_of_gt e3, Nat.ne_of_gt (Nat.lt_trans e1 e2), Nat.ne_of_gt e1⟩
  · simp only [List.forall_mem_cons, List.not_mem_nil, false_implies, implies_true, and_true]
    exact ⟨Ne.symm e6, Nat.ne_of_gt (Nat.lt_trans d3 e4), Nat.ne_of_gt d3, Nat.ne_of_gt (Nat.lt_trans d1 e2), Nat.ne_of_gt d1⟩
theorem arr2 {f : Nat → Value} {v : Value} {i : Nat} (hi : i < 2) (h : #[f 0, f 1][i]? = some v) : v = f i := by
  obtain rfl | rfl : i = 0 ∨ i = 1 := by omega
  · exact (Option.some.inj h).symm
  · exact (Option.some.inj h).symm
section
variable {prog : Program} {w : World} {A : Around} {E : Value → Shared → Prop} {s : Shared} {h₀ : Heap} {La l : Addr} {news : List (Addr × Obj)} {n : Nat} {u : Tok} {vs : List Value} {k : Int} {Q : Value → Shared → Prop} {value slice : Expr}
/-- drawn[k] -/
theorem item_drawn (i : Nat) {vD : Nat → Value} {cs : Nat → Int} {led : List (Addr × Obj)} (N : News h₀ La s.heap news) (hD : (l, LCg.lst [vD 0, vD 1]) ∈ led) (sub : ∀ p ∈ led, p ∈ news) (hd : ∀ i, i < 2 → DrawnAt led (vD i) (cs i)) (hi : i < 2) (e : k = (i : Int))
    (h : ∀ (a lc : Addr) (u0 u1 u2 u3 u4 : Tok) (n : Nat), (a, tupO [.int (dKind (cs i)) u0, .str (dOwn (cs i)) u1, .ref lc] 0) ∈ led → (lc, listOf #[.str (dC0 (cs i)) u2, .str (dC1 (cs i)) u3, .str (dC2 (cs i)) u4] n) ∈ led → Q (.ref a) s)
    (hs : subscripted slice false (.ref l) (.int k u) = operate [.ref l, .int k u] (getItem (.ref l) (.int k u)) := by with_unfolding_all rfl) (hg : ∀ r, letTemporaryGo value (.ref l) r = pure () := by intro _; with_unfolding_all rfl) :
    wpAny (model prog w) A (subscriptTail value slice (.ref l) (.int k u)) Q E s := by
  obtain ⟨a, lc, u0, u1, u2, u3, u4, n9, e9, m1, m2⟩ := hd i hi
  refine item_anyN (vs := [vD 0, vD 1]) (n := 2) (v := .ref a) i N (sub _ hD) e ?_ (Nat.le_of_ble_eq_true rfl) (h a lc u0 u1 u2 u3 u4 n9 m1 m2) hs hg
  rw [← e9]
  obtain rfl | rfl : i = 0 ∨ i = 1 := by omega
  · rfl
  · rfl
/-- a text among texts reckoned by their places -/
theorem item_form {f : Nat → PySem.Str} (c j : Nat) (hi : StrsAre vs ((List.range c).map f)) (N : News h₀ La s.heap news) (hb : (l, listOf vs.toArray n) ∈ news) (hj : j < c) (hc : c ≤ 100) (e : k = (j : Int)) (h : ∀ t, Q (.str (f j) t) s)
    (hs : subscripted slice false (.ref l) (.int k u) = operate [.ref l, .int k u] (getItem (.ref l) (.int k u)) := by with_unfolding_all rfl) (hg : ∀ r, letTemporaryGo value (.ref l) r = pure () := by intro _; with_unfolding_all rfl) :
    wpAny (model prog w) A (subscriptTail value slice (.ref l) (.int k u)) Q E s := by
  subst e
  refine item_strs N hb hi (Int.natCast_nonneg _) ?_ (by rw [List.length_map, List.length_range]; exact hc) (fun t => ?_) hs hg
  · rw [List.length_map, List.length_range]; omega
  · have : ((List.range c).map f).getD (Int.toNat j) (PySem.Str.ofString "") = f j := by
      rw [Int.toNat_natCast, List.getD_eq_getElem?_getD, List.getElem?_map, List.getElem?_range hj]; rfl
    rw [this]; exact h t
theorem item_formE {f : Nat → PySem.Str} (c j : Nat) (y : PySem.Str) (ef : f j = y) (hi : StrsAre vs ((List.range c).map f)) (N : News h₀ La s.heap news) (hb : (l, listOf vs.toArray n) ∈ news) (hj : j < c) (hc : c ≤ 100) (e : k = (j : Int)) (h : ∀ t, Q (.str y t) s)
    (hs : subscripted slice false (.ref l) (.int k u) = operate [.ref l, .int k u] (getItem (.ref l) (.int k u)) := by with_unfolding_all rfl) (hg : ∀ r, letTemporaryGo value (.ref l) r = pure () := by intro _; with_unfolding_all rfl) :
    wpAny (model prog w) A (subscriptTail value slice (.ref l) (.int k u)) Q E s := item_form c j hi N hb hj hc e (fun t => ef ▸ h t) hs hg
end
theorem for_end0 {h₀ h' : Heap} {L I : Addr} {oI : PySem.Obj} {s₁ : Shared} {rest : (PySem.Str → Option Value) → List (Addr × PySem.Obj) → Prop} {m' : PySem.Str → Option Value} {tk : Nat} {news₁ news' : List (Addr × PySem.Obj)}
    (off : ∀ p ∈ news₁, p.1 ≠ I) (F : Fr h₀ L h' m') (N : News h₀ L h' ((I, oI) :: news')) (e : news₁.map Prod.fst = news'.map Prod.fst) (h : rest m' news') : ForEnd h₀ L s₁ I oI rest { s₁ with heap := h', toks := tk } := by
  refine ⟨h', tk, m', news', rfl, F, N, fun p hp q => ?_, h⟩
  have : p.1 ∈ news₁.map Prod.fst := e ▸ List.mem_map_of_mem hp
  obtain ⟨p', hp', e'⟩ := List.mem_map.mp this
  exact off p' hp' (e'.trans q)
section
variable {prog : Program} {w : World} {A : Around} {h₀ : Heap} {L : Addr} {m : PySem.Str → Option Value} {env : Env} {elt : Expr} {x : PySem.Str} {scope : Scope} {cl : List (PySem.Str × Addr)} {s : Shared} {S : List (Addr × Obj) → Prop} {Fin : List Value → List (Addr × Obj) → Prop} {news : List (Addr × Obj)}
/-- texts made of a list's items -/
theorem rest_strsL {P : Nat → Value → Prop} (g : Nat → PySem.Str) (n : Nat)
    (turn : ∀ i v I oI C oC D m₂ ys h tk (E' : Value → Shared → Prop), i < n → P i v → LCg.NsObj oC m₂ → m₂ x = some v → Fr h₀ L h m → News h₀ L h ((I, oI) :: (C, oC) :: (D, LCg.lst ys) :: news) → LCg.Off3 I C D news → ((@Ne Nat I C) ∧ (@Ne Nat I D) ∧ (@Ne Nat C D)) →
      wpAny (model prog w) A (eval elt (compEnvC scope cl C env)) (LCg.CompEnd h₀ L m { s with heap := h, toks := tk } I oI C oC D (LCg.lst ys) S (StrTurn news (g i))) E' { s with heap := h, toks := tk })
    (fin : StrFin Fin news ((List.range n).map g)) : LCg.CompRest prog w A h₀ L m env elt x scope cl s S P Fin n 0 [] news := by
  suffices h : ∀ k i ys, i + k = n → StrsAre ys ((List.range i).map g) → LCg.CompRest prog w A h₀ L m env elt x scope cl s S P Fin k i ys news from h n 0 [] (Nat.zero_add _) .nil
  intro k
  induction k with
  | zero => intro i ys e hy; rw [show i = n by omega] at hy; exact fin ys hy
  | succ k ih =>
    intro i ys e hy v I oI C oC D m₂ h tk E' hP hC hx F N off ne
    refine wpAny_mono (turn i v I oI C oC D m₂ ys h tk E' (by omega) hP hC hx F N off ne) (fun y s' q => comp_end (fun news' ⟨a, t', b⟩ => ?_) q) fun _ _ e => e
    rw [a, b]
    refine ih (i + 1) _ (by omega) ?_
    rw [List.range_succ, List.map_append]
    exact strs_one hy
end
theorem comp_tailS {h₀ h' : Heap} {L I C D : Addr} {m : PySem.Str → Option Value} {s₁ : Shared} {oI oC oD : Obj} {S : List (Addr × Obj) → Prop} {rest : Value → List (Addr × Obj) → Prop} {y : Value} {tk : Nat} {news' : List (Addr × Obj)}
    (F : Fr h₀ L h' m) (N : News h₀ L h' ((I, oI) :: (C, oC) :: (D, oD) :: news')) (off : LCg.Off3 I C D news') (hS : S news') (r : rest y news') : LCg.CompEnd h₀ L m s₁ I oI C oC D oD S rest y { s₁ with heap := h', toks := tk } :=
  LCg.CompEnd.intro F N news' (fun _ hp => hp) off hS r
/-- turn by turn, where a turn stores names -/
theorem forRest_ofM {prog : Program} {w : World} {A : Around} {E : Value → Shared → Prop} {s : Shared} {env : Env} {h₀ : Heap} {L : Addr} {target : Expr} {body : List Stmt} {Q : Flow → Shared → Prop} {n0 : Nat} {a c : Int} (J : Nat → (PySem.Str → Option Value) → List (Addr × PySem.Obj) → Prop) (n : Nat)
    (turn : ∀ i m news, i < n → J i m news → ∀ t I oI h tk v, v = a + (i : Int) * c → n0 ≤ tk → oI.cls = .type "range_iterator" → Fr h₀ L h m → News h₀ L h ((I, oI) :: news) → (∀ p ∈ news, p.1 ≠ I) →
      wpAny (model prog w) A (assign target env (.int v t)) (fun _ s₂ => wpAny (model prog w) A (execs body env)
        (ForPost h₀ L s I oI (J (i + 1)) Q) E s₂) E { s with heap := h, toks := tk })
    (done : ∀ m news h tk, J n m news → n0 ≤ tk → Fr h₀ L h m → News h₀ L h news → Q .next { s with heap := h, toks := tk }) :
    ∀ k i m news, i + k = n → J i m news → ForRest prog w A E h₀ L env target body Q n0 s a c k i m news
  | 0, i, m, news, e, hJ => fun h tk le F N => done m news h tk (by rw [← e]; exact hJ) le F N
  | k + 1, i, m, news, e, hJ => by
    intro t I oI h tk v ev le hc F N off
    refine wpAny_mono (turn i m news (by omega) hJ t I oI h tk v ev le hc F N off) (fun _ s₂ h₂ => wpAny_mono h₂ (fun f s₃ h₃ => ?_) fun _ _ e => e) fun _ _ e => e
    have fin : ForEnd h₀ L s I oI (J (i + 1)) s₃ → ForEnd h₀ L s I oI (ForRest prog w A E h₀ L env target body Q n0 s a c k (i + 1)) s₃ := by
      rintro ⟨h', tk', m', news', rfl, F', N', off', J'⟩
      exact ⟨h', tk', _, news', rfl, F', N', off', forRest_ofM J n turn done k (i + 1) m' news' (by omega) J'⟩
    cases f with
    | ret v => exact h₃
    | brk => exact h₃
    | next => exact fin h₃
    | cont => exact fin h₃
section
variable {prog : Program} {w : World} {A : Around} {E : Value → Shared → Prop} {s : Shared} {h₀ : Heap} {La l : Addr} {news : List (Addr × Obj)} {n : Nat} {u : Tok} {vs : List Value} {k : Int} {v : Value} {Q : Value → Shared → Prop} {value slice : Expr}
/-- an item of a tuple, of a list, by its figure -/
theorem tup_at (N : News h₀ La s.heap news) (hb : (l, tupO vs n) ∈ news) (h0 : decide (0 ≤ k) = true) (hz : Nat.ble vs.length 100 = true) (e : vs[k.toNat]? = some v) (h : Q v s)
    (hs : subscripted slice false (.ref l) (.int k u) = operate [.ref l, .int k u] (getItem (.ref l) (.int k u)) := by with_unfolding_all rfl) :
    wpAny (model prog w) A (subscriptTail value slice (.ref l) (.int k u)) Q E s := by
  have h0 := of_decide_eq_true h0
  have hl : k.toNat < vs.length := (List.getElem?_eq_some_iff.mp e).1
  have hz := Nat.le_of_ble_eq_true hz
  exact item_tupleT (N.isTup hb) (by omega) (by omega) (PySem.StrLaws.seqIndex_nonneg h0 (by omega)) e h hs
theorem lst_at (N : News h₀ La s.heap news) (hb : (l, listOf vs.toArray n) ∈ news) (h0 : decide (0 ≤ k) = true) (hz : Nat.ble vs.length 100 = true) (e : vs[k.toNat]? = some v) (h : Q v s)
    (hs : subscripted slice false (.ref l) (.int k u) = operate [.ref l, .int k u] (getItem (.ref l) (.int k u)) := by with_unfolding_all rfl) :
    wpAny (model prog w) A (subscriptTail value slice (.ref l) (.int k u)) Q E s := by
  have h0 := of_decide_eq_true h0
  have hl : k.toNat < vs.length := (List.getElem?_eq_some_iff.mp e).1
  have hz := Nat.le_of_ble_eq_true hz
  have hL := News.isList N hb
  exact tail_any hL.typeIs slot_list_getitem.lookup (wpAny_getItem_list hL h0 (by omega) (by rw [List.getElem?_toArray]; exact e) h) hs
end
/-- only these names were stored -/
def Only (xs : List PySem.Str) (m₀ m : PySem.Str → Option Value) : Prop := ∀ z, xs.contains z = false → m z = m₀ z
theorem only_eq {xs : List PySem.Str} {m₀ m : PySem.Str → Option Value} (h : Only xs m₀ m) : ∃ u : PySem.Str → Option Value, m = fun z => if xs.contains z then u z else m₀ z := ⟨m, by
  funext z
  by_cases q : xs.contains z = true
  · rw [if_pos q]
  · rw [if_neg q]; exact h z (by simpa using q)⟩
/-- the pages made so far -/
def PgJ (Dp : Addr) (cs : Nat → Int) (m₀ : PySem.Str → Option Value) (base : List (Addr × Obj)) (i : Nat) (m : PySem.Str → Option Value) (news : List (Addr × Obj)) : Prop :=
  ∃ vs n, Only [PySem.Str.ofString "k", PySem.Str.ofString "cuts"] m₀ m ∧ news = (Dp, listOf vs.toArray n) :: base ∧ StrsAre vs ((List.range i).map fun k => pageT (cs k) (cs (1 - k)))
theorem pgj_mk {Dp : Addr} {cs : Nat → Int} {m₀ m : PySem.Str → Option Value} {base : List (Addr × Obj)} {i n : Nat} {vs : List Value} {t : Tok} (ho : Only [PySem.Str.ofString "k", PySem.Str.ofString "cuts"] m₀ m) (hv : StrsAre vs ((List.range i).map fun k => pageT (cs k) (cs (1 - k)))) :
    PgJ Dp cs m₀ base (i + 1) m ((Dp, listOf (vs ++ [Value.str (pageT (cs i) (cs (1 - i))) t]).toArray n) :: base) :=
  ⟨_, n, ho, rfl, by rw [List.range_succ, List.map_append]; exact strs_one hv⟩
/-- where a turn of law's second loop begins -/
def LwJ (xs : List PySem.Str) (m₀ : PySem.Str → Option Value) (p1 p2 : Addr × Obj) (L : Addr) (led : List (Addr × Obj)) (_ : Nat) (m : PySem.Str → Option Value) (news : List (Addr × Obj)) : Prop :=
  ∃ oA oB a b, Only xs m₀ m ∧ news = p1 :: p2 :: (L + 1 + 1, oA) :: (L + 1, oB) :: led ∧ oA.data = .cell a ∧ oB.data = .cell b
theorem only_more {xs ys : List PySem.Str} {m₀ u : PySem.Str → Option Value} (h : ∀ z, xs.contains z = false → ys.contains z = false) : Only xs m₀ (fun z => if ys.contains z then u z else m₀ z) := fun z hz => by
  show (if ys.contains z then u z else m₀ z) = m₀ z
  rw [h z hz]; rfl
/-- a turn of a comprehension that leaves two new objects -/
theorem comp_two {h₀ h' : Heap} {L I C D a c : Addr} {m : PySem.Str → Option Value} {s₁ : Shared} {oI oC oD oa oc : Obj} {S : List (Addr × Obj) → Prop} {rest : Value → List (Addr × Obj) → Prop} {y : Value} {tk : Nat} {news' : List (Addr × Obj)}
    (F : Fr h₀ L h' m) (N : News h₀ L h' ((a, oa) :: (c, oc) :: (I, oI) :: (C, oC) :: (D, oD) :: news')) (off : LCg.Off3 I C D news') (lI : I < c) (lC : C < c) (lD : D < c) (lca : c < a) (hS : S ((a, oa) :: (c, oc) :: news')) (r : rest y ((a, oa) :: (c, oc) :: news')) : LCg.CompEnd h₀ L m s₁ I oI C oC D oD S rest y { s₁ with heap := h', toks := tk } := by
  refine LCg.CompEnd.intro F N ((a, oa) :: (c, oc) :: news') (fun p hp => ?_) ⟨⟨Nat.ne_of_gt (Nat.lt_trans lI lca), Nat.ne_of_gt (Nat.lt_trans lC lca), Nat.ne_of_gt (Nat.lt_trans lD lca)⟩, ⟨Nat.ne_of_gt lI, Nat.ne_of_gt lC, Nat.ne_of_gt lD⟩, off⟩ hS r
  rcases List.mem_cons.mp hp with e | hp
  · rw [e]; exact .tail _ (.tail _ (.head _))
  · rcases List.mem_cons.mp hp with e | hp
    · rw [e]; exact .tail _ (.tail _ (.tail _ (.head _)))
    · rcases List.mem_cons.mp hp with e | hp
      · rw [e]; exact .tail _ (.tail _ (.tail _ (.tail _ (.head _))))
      · rcases List.mem_cons.mp hp with e | hp
        · rw [e]; exact .head _
        · rcases List.mem_cons.mp hp with e | hp
          · rw [e]; exact .tail _ (.head _)
          · exact .tail _ (.tail _ (.tail _ (.tail _ (.tail _ hp))))
end
section
/-! a page as its rows, and what reading it gives -/
structure Rw where
  bl : List Nat
  nm : Option (List Nat)
  c : Nat
def Rw.body (r : Rw) : List Nat := match r.nm with | some n => qd n | none => [r.c]
def Rw.txt (r : Rw) : List Nat := r.bl ++ r.body
def pgOf : List Rw → List Nat
  | [] => []
  | [r] => r.txt
  | r :: q :: rs => r.txt ++ 10 :: pgOf (q :: rs)
structure Rw.OK (r : Rw) : Prop where
  bl : ∀ x ∈ r.bl, x = 32 ∨ x = 9
  c : r.nm = none → r.c = 37 ∨ r.c = 42 ∨ r.c = 43 ∨ r.c = 62 ∨ r.c = 64
theorem pgOf_cons (r : Rw) (rs : List Rw) : ∃ tl, pgOf (r :: rs) = r.bl ++ (r.body ++ tl) ∧ (tl = [] ∧ rs = [] ∨ tl = 10 :: pgOf rs) := by
  cases rs with
  | nil => exact ⟨[], by simp [pgOf, Rw.txt], .inl ⟨rfl, rfl⟩⟩
  | cons q rs => exact ⟨10 :: pgOf (q :: rs), by simp [pgOf, Rw.txt], .inr rfl⟩
theorem blanks_of {bl r : List Nat} {c : Nat} (hb : ∀ x ∈ bl, x = 32 ∨ x = 9) (h1 : c ≠ 32) (h2 : c ≠ 9) : blanks (bl ++ c :: r) = bl := by
  unfold blanks
  rw [List.takeWhile_append_of_pos (fun x hx => by rcases hb x hx with h | h <;> simp [h]), List.takeWhile_cons_of_neg (by simp [h1, h2]), List.append_nil]
/-- what one row adds -/
def rsStep (s : RS) (r : Rw) : RS :=
  ⟨s.at' + r.txt.length + 1, s.ks ++ [match r.nm with | some _ => 255 + ((s.ns.length : Int) + 1) | none => tokOf r.c], s.ns ++ (match r.nm with | some n => [tx n] | none => []), s.ab ++ [(popR s.ws (wsRun r.bl) s.lr).headD (-1)], s.ws ++ [wsRun r.bl], (s.ws.length : Int) :: popR s.ws (wsRun r.bl) s.lr⟩
theorem qd_len (n : List Nat) : (qd n).length = n.length + n.count 34 + 2 := by
  unfold qd; simp only [List.length_cons, List.length_append, List.length_nil]; rw [dbl_len]
theorem body_head {r : Rw} (ok : r.OK) : ∃ c tl, r.body = c :: tl ∧ (c = 34 ∨ c = 37 ∨ c = 42 ∨ c = 43 ∨ c = 62 ∨ c = 64) := by
  unfold Rw.body
  cases e : r.nm with
  | some n => exact ⟨34, _, rfl, .inl rfl⟩
  | none => exact ⟨r.c, [], rfl, .inr (ok.c e)⟩
theorem drop_add {pg X Y : List Nat} {a b : Nat} (h : pg.drop a = X ++ Y) (e : b = a + X.length) : pg.drop b = Y := by
  rw [e, ← List.drop_drop, h, List.drop_left]
theorem row_step {pg : List Nat} {s : RS} {r : Rw} {rs : List Rw} (h0 : 0 ≤ s.at') (e : pg.drop s.at'.toNat = pgOf (r :: rs)) (ok : r.OK) :
    rowStep pg s = rsStep s r ∧ pg.drop (rsStep s r).at'.toNat = pgOf rs ∧ (∃ c q, pg.drop (rowAt pg s).toNat = c :: q ∧ (c = 34 ∨ c = 37 ∨ c = 42 ∨ c = 43 ∨ c = 62 ∨ c = 64)) := by
  obtain ⟨tl, e1, e2⟩ := pgOf_cons r rs
  obtain ⟨c, q, hb, hc⟩ := body_head ok
  rw [e1] at e
  have hW : rowWS pg s = wsRun r.bl := by
    unfold rowWS; rw [e, hb, List.cons_append, blanks_of ok.bl (fun e => by rw [e] at hc; revert hc; decide) (fun e => by rw [e] at hc; revert hc; decide)]
  have hA : rowAt pg s = s.at' + r.bl.length := by unfold rowAt; rw [hW, wsRun_n]
  have hD : pg.drop (rowAt pg s).toNat = r.body ++ tl := drop_add e (by rw [hA, Int.toNat_add_nat h0])
  have hT : pg.drop (rsStep s r).at'.toNat = pgOf rs := by
    have h1 : pg.drop (s.at'.toNat + r.bl.length + r.body.length) = tl := drop_add (drop_add e rfl) rfl
    have h2 : (rsStep s r).at'.toNat = s.at'.toNat + r.bl.length + r.body.length + 1 := by
      show (s.at' + r.txt.length + 1).toNat = _
      unfold Rw.txt; rw [List.length_append]; rw [Int.add_assoc]; exact (Int.toNat_add_nat h0 (r.bl.length + r.body.length + 1)).trans (congrArg Nat.succ (Nat.add_assoc _ _ _).symm)
    rw [h2, ← List.drop_drop, h1]
    rcases e2 with ⟨a, b⟩ | a
    · rw [a, b]; rfl
    · rw [a]; rfl
  refine ⟨?_, hT, ⟨c, q ++ tl, by rw [hD, hb]; rfl, hc⟩⟩
  have hN : isName pg s = r.nm.isSome := by
    unfold isName; rw [hD]
    cases h : r.nm with
    | some n => simp [Rw.body, h, qd]
    | none =>
      have := ok.c h
      simp [Rw.body, h]; omega
  have hLr : rowLr pg s = popR s.ws (wsRun r.bl) s.lr := by unfold rowLr; rw [hW]
  cases h : r.nm with
  | some n =>
    rw [h] at hN
    have hnm : rowName pg s = n := by
      unfold rowName
      have : pg.drop ((rowAt pg s).toNat + 1) = dbl 34 n ++ 34 :: tl := by
        rw [← List.drop_drop, hD]
        simp [Rw.body, h, qd]
      rw [this]
      refine pq_name n tl ?_
      rcases e2 with ⟨a, b⟩ | a
      · rw [a]; simp
      · rw [a]; simp
    have hl : r.txt.length = r.bl.length + (n.length + n.count 34 + 2) := by unfold Rw.txt Rw.body; rw [h, List.length_append, qd_len]
    unfold rowStep rsStep rowNext rowKs rowNs
    rw [hN, hnm, hA, hLr, hW, h, hl]
    simp only [Option.isSome_some, if_true, RS.mk.injEq, and_true]
    omega
  | none =>
    rw [h] at hN
    have hl : r.txt.length = r.bl.length + 1 := by unfold Rw.txt Rw.body; rw [h, List.length_append]; rfl
    have hh : ((pg.drop (rowAt pg s).toNat).headD 0) = r.c := by rw [hD]; simp [Rw.body, h]
    unfold rowStep rsStep rowNext rowKs rowNs
    rw [hN, hh, hA, hLr, hW, h, hl]
    simp only [Option.isSome_none, Bool.false_eq_true, if_false, RS.mk.injEq, and_true, List.append_nil]
    omega
def rs0 : RS := ⟨0, [], [], [], [], []⟩
theorem pop_sub (ws : List WS) (st : WS) : ∀ lr : List Int, (∀ j ∈ popR ws st lr, j ∈ lr) ∧ (popR ws st lr).length ≤ lr.length
  | [] => ⟨fun _ h => h, Nat.le_refl _⟩
  | k :: r => by
    have ih := pop_sub ws st r
    unfold popR
    split
    · exact ⟨fun _ h => h, Nat.le_refl _⟩
    · exact ⟨fun j h => .tail _ (ih.1 j h), Nat.le_succ_of_le ih.2⟩
/-- what holds of what has been read -/
structure RsInv (i : Nat) (s : RS) : Prop where
  pos : 0 ≤ s.at'
  ln : ∀ j ∈ s.lr, 0 ≤ j ∧ j < s.ws.length
  ws : s.ws.length = i
  ks : s.ks.length = i
  ab : s.ab.length = i
  ns : s.ns.length ≤ i
  lr : s.lr.length ≤ i
theorem RsInv.step {i : Nat} {s : RS} (h : RsInv i s) (r : Rw) : RsInv (i + 1) (rsStep s r) := by
  have p := pop_sub s.ws (wsRun r.bl) s.lr
  have hl : (rsStep s r).ws.length = s.ws.length + 1 := by unfold rsStep; simp
  refine ⟨?_, ?_, ?_, ?_, ?_, ?_, ?_⟩
  · show 0 ≤ s.at' + _ + 1
    have := h.pos; omega
  · intro j hj
    rw [hl]
    rcases List.mem_cons.mp hj with q | q
    · rw [q]; omega
    · have := h.ln j (p.1 j q); omega
  · rw [hl, h.ws]
  · unfold rsStep; simp [h.ks]
  · unfold rsStep; simp [h.ab]
  · unfold rsStep; have := h.ns; cases r.nm <;> simp <;> omega
  · unfold rsStep; have := h.lr; simp; omega
theorem rows_are {rws : List Rw} (hok : ∀ r ∈ rws, r.OK) : ∀ i, i ≤ rws.length → rows (pgOf rws) i = (rws.take i).foldl rsStep rs0 ∧ RsInv i (rows (pgOf rws) i) ∧ (pgOf rws).drop (rows (pgOf rws) i).at'.toNat = pgOf (rws.drop i)
  | 0, _ => ⟨rfl, ⟨Int.le_refl _, (fun _ h => nomatch h), rfl, rfl, rfl, Nat.le_refl _, Nat.le_refl _⟩, rfl⟩
  | i + 1, h => by
    obtain ⟨e1, e2, e3⟩ := rows_are hok i (by omega)
    have hd : rws.drop i = rws[i] :: rws.drop (i + 1) := List.drop_eq_getElem_cons (by omega)
    rw [hd] at e3
    obtain ⟨f1, f2, _⟩ := row_step e2.pos e3 (hok _ (List.getElem_mem _))
    have f0 : rows (pgOf rws) (i + 1) = rsStep (rows (pgOf rws) i) rws[i] := f1
    refine ⟨?_, ?_, ?_⟩
    · rw [f0, e1, List.take_succ_eq_append_getElem (by omega), List.foldl_append]; rfl
    · rw [f0]; exact e2.step _
    · rw [f0]; exact f2
theorem txt_pos {r : Rw} (ok : r.OK) : 0 < r.txt.length := by
  obtain ⟨c, tl, e, _⟩ := body_head ok
  unfold Rw.txt; rw [e, List.length_append, List.length_cons]; omega
theorem pg_pos {r : Rw} (rs : List Rw) (ok : r.OK) : 0 < (pgOf (r :: rs)).length := by
  obtain ⟨tl, e, _⟩ := pgOf_cons r rs
  have := txt_pos ok
  rw [e, ← List.append_assoc, List.length_append]
  show 0 < r.txt.length + _
  omega
theorem at_lt {rws : List Rw} (hok : ∀ r ∈ rws, r.OK) {i : Nat} (h : i < rws.length) : (rows (pgOf rws) i).at' < (pgOf rws).length := by
  obtain ⟨e1, e2, e3⟩ := rows_are hok i (by omega)
  have hd : rws.drop i = rws[i] :: rws.drop (i + 1) := List.drop_eq_getElem_cons h
  have := congrArg List.length e3
  rw [hd, List.length_drop] at this
  have := pg_pos (rws.drop (i + 1)) (hok _ (List.getElem_mem h))
  omega
theorem at_end {rws : List Rw} (hok : ∀ r ∈ rws, r.OK) : ¬ (rows (pgOf rws) rws.length).at' < (pgOf rws).length := by
  obtain ⟨e1, e2, e3⟩ := rows_are hok rws.length (Nat.le_refl _)
  have := congrArg List.length e3
  rw [List.drop_length, List.length_drop] at this
  simp only [pgOf, List.length_nil] at this
  have := e2.pos
  omega
theorem rows_ok {rws : List Rw} (hok : ∀ r ∈ rws, r.OK) (hz : rws.length ≤ 100) : ∀ i, (∀ j ≤ i, (rows (pgOf rws) j).at' < (pgOf rws).length) → RowOK (pgOf rws) (rows (pgOf rws) i) := by
  intro i hi
  have hlt : i < rws.length := by
    rcases Nat.lt_or_ge i rws.length with q | q
    · exact q
    · exact absurd (hi _ q) (at_end hok)
  obtain ⟨e1, e2, e3⟩ := rows_are hok i (by omega)
  have hd : rws.drop i = rws[i] :: rws.drop (i + 1) := List.drop_eq_getElem_cons hlt
  rw [hd] at e3
  obtain ⟨_, _, f3⟩ := row_step e2.pos e3 (hok _ (List.getElem_mem _))
  have g1 := e2.ns; have g2 := e2.ws; have g3 := e2.lr; have g4 := e2.ks; have g5 := e2.ab
  exact ⟨e2.pos, f3, e2.ln, by omega⟩
/-- where the reading ends -/
theorem rows_end {rws : List Rw} (hok : ∀ r ∈ rws, r.OK) {i : Nat} (h1 : ∀ j < i, (rows (pgOf rws) j).at' < (pgOf rws).length) (h2 : ¬ (rows (pgOf rws) i).at' < (pgOf rws).length) : rows (pgOf rws) i = rws.foldl rsStep rs0 := by
  have e : i = rws.length := by
    rcases Nat.lt_trichotomy i rws.length with q | q | q
    · exact absurd (at_lt hok q) h2
    · exact q
    · exact absurd (h1 _ q) (at_end hok)
  obtain ⟨e1, _, _⟩ := rows_are hok i (by omega)
  rw [e1, e, List.take_length]
/-- what stands above each row: it hangs on the blanks alone -/
structure WA where
  ab : List Int
  ws : List WS
  lr : List Int
def waStep (s : WA) (b : List Nat) : WA := ⟨s.ab ++ [(popR s.ws (wsRun b) s.lr).headD (-1)], s.ws ++ [wsRun b], (s.ws.length : Int) :: popR s.ws (wsRun b) s.lr⟩
def wa (bs : List (List Nat)) : WA := bs.foldl waStep ⟨[], [], []⟩
def abOf (bs : List (List Nat)) : List Int := (wa bs).ab
theorem fold_wa (rws : List Rw) : ∀ s : RS, (rws.foldl rsStep s).ab = ((rws.map Rw.bl).foldl waStep ⟨s.ab, s.ws, s.lr⟩).ab := by
  induction rws with
  | nil => intro s; rfl
  | cons r rs ih => intro s; exact ih _
theorem ab_of (rws : List Rw) : (rws.foldl rsStep rs0).ab = abOf (rws.map Rw.bl) := fold_wa rws rs0
def nearL : List (List Nat) := [[9], [32, 9], [32, 32, 9], [32, 32, 32]]
def farL : List (List Nat) := [[32, 32, 32, 9], [32, 32, 9, 32, 32], [9, 9], [32, 32, 32, 32, 32]]
theorem ab_shape0 : ∀ p1 ∈ farL, ∀ p2 ∈ farL, abOf [[], p1, p2] = [-1, 0, 0] := by decide +kernel
theorem ab_shape1 : ∀ b ∈ nearL, ∀ p1 ∈ farL, ∀ p2 ∈ farL, ∀ p3 ∈ nearL, abOf [[], b, b ++ p1, b ++ p2, p3] = [-1, 0, 1, 1, 0] := by decide +kernel
theorem ab_shape2 : ∀ b ∈ nearL, ∀ p1 ∈ farL, ∀ p2 ∈ farL, ∀ p3 ∈ nearL, abOf [[], p3, b, b ++ p1, b ++ p2] = [-1, 0, 0, 2, 2] := by decide +kernel
end
section
theorem sg_nl : sg (PySem.Str.ofString "\n") = [10] := by decide +kernel
theorem sg_e : sg (PySem.Str.ofString "") = [] := by decide +kernel
theorem sg_pctn : sg (PySem.Str.ofString "%\n") = [37, 10] := by decide +kernel
theorem sg_pcts : sg (PySem.Str.ofString "%s") = [37, 115] := by decide +kernel
theorem sg_plus : sg (PySem.Str.ofString "+\n") = [43, 10] := by decide +kernel
theorem sg_star : sg (PySem.Str.ofString "*\n") = [42, 10] := by decide +kernel
theorem sg_gt : sg (PySem.Str.ofString ">\n") = [62, 10] := by decide +kernel
theorem sg_at : sg (PySem.Str.ofString "@\n") = [64, 10] := by decide +kernel
theorem near_sg (r : Int) {k : Nat} (hk : k = 0 ∨ k = 3) : sg (pieceT r k) ∈ nearL := by
  unfold pieceT
  rw [if_pos hk]
  have h := fmod4 (r.fdiv (4 ^ k))
  generalize (r.fdiv (4 ^ k)).fmod 4 = y at h
  obtain rfl | rfl | rfl | rfl : y = 0 ∨ y = 1 ∨ y = 2 ∨ y = 3 := four_of h
  all_goals decide +kernel
theorem far_sg (r : Int) {k : Nat} (hk : ¬ (k = 0 ∨ k = 3)) : sg (pieceT r k) ∈ farL := by
  unfold pieceT
  rw [if_neg hk]
  have h := fmod4 (r.fdiv (4 ^ k))
  generalize (r.fdiv (4 ^ k)).fmod 4 = y at h
  obtain rfl | rfl | rfl | rfl : y = 0 ∨ y = 1 ∨ y = 2 ∨ y = 3 := four_of h
  all_goals decide +kernel
theorem near_bl : ∀ l ∈ nearL, ∀ x ∈ l, x = 32 ∨ x = 9 := by decide
theorem far_bl : ∀ l ∈ farL, ∀ x ∈ l, x = 32 ∨ x = 9 := by decide
theorem far_two : ∀ l ∈ farL, 2 ≤ l.length := by decide
def sgnOf (k : Int) : Nat := if k = 3 then 42 else if k = 4 then 62 else if k = 5 then 64 else 43
/-- a page's rows -/
def rwsOf (c d : Int) : List Rw :=
  if dKind c = 0 then [⟨[], none, 37⟩, ⟨sg (pieceT (c.fdiv 6) 1), some (sg (formT d)), 0⟩, ⟨sg (pieceT (c.fdiv 6) 2), some (sg (formT c)), 0⟩]
  else if dKind c = 2 then [⟨[], none, 43⟩, ⟨sg (pieceT (c.fdiv 6) 3), some (sg (dOwn c)), 0⟩, ⟨sg (pieceT (c.fdiv 6) 0), none, 37⟩, ⟨sg (pieceT (c.fdiv 6) 0) ++ sg (pieceT (c.fdiv 6) 1), some (sg (formT d)), 0⟩, ⟨sg (pieceT (c.fdiv 6) 0) ++ sg (pieceT (c.fdiv 6) 2), some (sg (formT c)), 0⟩]
  else [⟨[], none, sgnOf (dKind c)⟩, ⟨sg (pieceT (c.fdiv 6) 0), none, 37⟩, ⟨sg (pieceT (c.fdiv 6) 0) ++ sg (pieceT (c.fdiv 6) 1), some (sg (formT d)), 0⟩, ⟨sg (pieceT (c.fdiv 6) 0) ++ sg (pieceT (c.fdiv 6) 2), some (sg (formT c)), 0⟩, ⟨sg (pieceT (c.fdiv 6) 3), some (sg (dOwn c)), 0⟩]
theorem kind_cases (c : Int) : dKind c = 0 ∨ dKind c = 1 ∨ dKind c = 2 ∨ dKind c = 3 ∨ dKind c = 4 ∨ dKind c = 5 := six_of (fmod6 c)
theorem page_rows (c d : Int) : sg (pageT c d) = pgOf (rwsOf c d) := by
  unfold pageT dC0 dC1 dC2 dBase headT headL rwsOf dRow
  rcases kind_cases c with h | h | h | h | h | h <;> rw [h] <;>
    simp [pgOf, Rw.txt, Rw.body, sgnOf, sg_app, sg_tx, sg_nl, sg_e, sg_pctn, sg_plus, sg_star, sg_gt, sg_at, -List.size_toArray]
theorem rws_len (c d : Int) : (rwsOf c d).length ≤ 100 := by
  unfold rwsOf; split
  · exact Nat.le_of_ble_eq_true rfl
  · split <;> exact Nat.le_of_ble_eq_true rfl
theorem rw_name {b n : List Nat} {c : Nat} (h : ∀ x ∈ b, x = 32 ∨ x = 9) : Rw.OK ⟨b, some n, c⟩ := ⟨h, fun e => nomatch e⟩
theorem rw_sign {b : List Nat} {c : Nat} (h : ∀ x ∈ b, x = 32 ∨ x = 9) (hc : c = 37 ∨ c = 42 ∨ c = 43 ∨ c = 62 ∨ c = 64) : Rw.OK ⟨b, none, c⟩ := ⟨h, fun _ => hc⟩
theorem bl_app {a b : List Nat} (ha : ∀ x ∈ a, x = 32 ∨ x = 9) (hb : ∀ x ∈ b, x = 32 ∨ x = 9) : ∀ x ∈ a ++ b, x = 32 ∨ x = 9 := fun x hx => (List.mem_append.mp hx).elim (ha x) (hb x)
theorem rws_ok (c d : Int) : ∀ r ∈ rwsOf c d, r.OK := by
  have e : ∀ x ∈ ([] : List Nat), x = 32 ∨ x = 9 := fun _ h => nomatch h
  have n0 := near_bl _ (near_sg (c.fdiv 6) (k := 0) (.inl rfl))
  have n3 := near_bl _ (near_sg (c.fdiv 6) (k := 3) (.inr rfl))
  have f1 := far_bl _ (far_sg (c.fdiv 6) (k := 1) (by decide))
  have f2 := far_bl _ (far_sg (c.fdiv 6) (k := 2) (by decide))
  unfold rwsOf
  split
  · exact List.forall_mem_cons.mpr ⟨rw_sign e (.inl rfl), List.forall_mem_cons.mpr ⟨rw_name f1, List.forall_mem_cons.mpr ⟨rw_name f2, fun _ h => nomatch h⟩⟩⟩
  · split
    · exact List.forall_mem_cons.mpr ⟨rw_sign e (.inr (.inr (.inl rfl))), List.forall_mem_cons.mpr ⟨rw_name n3, List.forall_mem_cons.mpr ⟨rw_sign n0 (.inl rfl), List.forall_mem_cons.mpr ⟨rw_name (bl_app n0 f1), List.forall_mem_cons.mpr ⟨rw_name (bl_app n0 f2), fun _ h => nomatch h⟩⟩⟩⟩⟩
    · refine List.forall_mem_cons.mpr ⟨rw_sign e ?_, List.forall_mem_cons.mpr ⟨rw_sign n0 (.inl rfl), List.forall_mem_cons.mpr ⟨rw_name (bl_app n0 f1), List.forall_mem_cons.mpr ⟨rw_name (bl_app n0 f2), List.forall_mem_cons.mpr ⟨rw_name n3, fun _ h => nomatch h⟩⟩⟩⟩⟩
      unfold sgnOf; split
      · exact .inr (.inl rfl)
      · split
        · exact .inr (.inr (.inr (.inl rfl)))
        · split
          · exact .inr (.inr (.inr (.inr rfl)))
          · exact .inr (.inr (.inl rfl))
/-- what a page reads as -/
def pKs (c : Int) : List Int := if dKind c = 0 then [24, 256, 257] else if dKind c = 2 then [14, 256, 24, 257, 258] else [tokOf (sgnOf (dKind c)), 24, 256, 257, 258]
def pNs (c d : Int) : List PySem.Str := if dKind c = 0 then [formT d, formT c] else if dKind c = 2 then [dOwn c, formT d, formT c] else [formT d, formT c, dOwn c]
def pAb (c : Int) : List Int := if dKind c = 0 then [-1, 0, 0] else if dKind c = 2 then [-1, 0, 0, 2, 2] else [-1, 0, 1, 1, 0]
theorem read_ks (c d : Int) : ((rwsOf c d).foldl rsStep rs0).ks = pKs c := by
  unfold rwsOf pKs
  split
  · rfl
  · split
    · rfl
    · rfl
theorem read_ns (c d : Int) : ((rwsOf c d).foldl rsStep rs0).ns = pNs c d := by
  unfold rwsOf pNs
  split
  · show [tx (sg (formT d)), tx (sg (formT c))] = _
    simp only [tx_sg]
  · split
    · show [tx (sg (dOwn c)), tx (sg (formT d)), tx (sg (formT c))] = _
      simp only [tx_sg]
    · show [tx (sg (formT d)), tx (sg (formT c)), tx (sg (dOwn c))] = _
      simp only [tx_sg]
theorem read_ab (c d : Int) : ((rwsOf c d).foldl rsStep rs0).ab = pAb c := by
  rw [ab_of]
  have n0 := near_sg (c.fdiv 6) (k := 0) (.inl rfl)
  have n3 := near_sg (c.fdiv 6) (k := 3) (.inr rfl)
  have f1 := far_sg (c.fdiv 6) (k := 1) (by decide)
  have f2 := far_sg (c.fdiv 6) (k := 2) (by decide)
  unfold rwsOf pAb
  split
  · exact ab_shape0 _ f1 _ f2
  · split
    · exact ab_shape2 _ n0 _ f1 _ f2 _ n3
    · exact ab_shape1 _ n0 _ f1 _ f2 _ n3
/-! a form, filled -/
theorem dbl_app (c : Nat) (b : List Nat) : ∀ a : List Nat, dbl c (a ++ b) = dbl c a ++ dbl c b
  | [] => rfl
  | k :: a => by
    rw [List.cons_append, dbl_cons, dbl_cons, dbl_app c b a]
    split <;> rfl
theorem dbl_none {c : Nat} : ∀ {a : List Nat}, (∀ x ∈ a, x ≠ c) → dbl c a = a
  | [], _ => rfl
  | k :: a, h => by
    rw [dbl_cons, if_neg (h k (.head _)), dbl_none fun x hx => h x (.tail _ hx)]
def NoP (l : List Nat) : Prop := ∀ x ∈ l, x ≠ 37
theorem NoP.app {a b : List Nat} (ha : NoP a) (hb : NoP b) : NoP (a ++ b) := fun x hx => (List.mem_append.mp hx).elim (ha x) (hb x)
theorem bl_nop {l : List Nat} (h : ∀ x ∈ l, x = 32 ∨ x = 9) : NoP l := fun x hx => by have := h x hx; omega
theorem dbl_mem {c x : Nat} : ∀ {a : List Nat}, x ∈ dbl c a → x ∈ a
  | [], h => h
  | k :: a, h => by
    rw [dbl_cons] at h
    split at h
    · rcases List.mem_cons.mp h with q | q
      · exact q ▸ .head _
      · rcases List.mem_cons.mp q with q | q
        · exact q ▸ .head _
        · exact .tail _ (dbl_mem q)
    · rcases List.mem_cons.mp h with q | q
      · exact q ▸ .head _
      · exact .tail _ (dbl_mem q)
theorem qd_nop {l : List Nat} (h : NoP l) : NoP (qd l) := by
  intro x hx
  unfold qd at hx
  rcases List.mem_cons.mp hx with q | q
  · omega
  · rcases List.mem_append.mp q with q | q
    · exact h x (dbl_mem q)
    · rw [List.mem_singleton.mp q]; decide
theorem sg_joinS : ∀ ts : List PySem.Str, sg (PySem.Str.join (PySem.Str.ofString "") ts) = (ts.map sg).flatten
  | [] => rfl
  | [x] => by show sg x = _; simp
  | x :: y :: r => by
    have e : PySem.Str.join (PySem.Str.ofString "") (x :: y :: r) = x ++ PySem.Str.ofString "" ++ PySem.Str.join (PySem.Str.ofString "") (y :: r) := join_cons_cons _ _ _ _
    rw [e, sg_app, sg_app, sg_e, List.append_nil, List.map_cons, List.flatten_cons, sg_joinS (y :: r)]
theorem sg_join (ts : List PySem.Str) : sg (PySem.Txt.join (PySem.Str.ofString "") ts) = (ts.map sg).flatten := by
  rw [← sg_joinS]
  show sg (Builtin.Str.glued (PySem.Str.ofString "") ts) = _
  rw [StrLaws.glued_eq_join]
theorem own_nop (c : Int) : NoP (sg (dOwn c)) := by
  unfold dOwn ownOf
  rw [sg_join]
  intro x hx
  obtain ⟨l, hl, hx⟩ := List.mem_flatten.mp hx
  obtain ⟨t, ht, rfl⟩ := List.mem_map.mp hl
  obtain ⟨k, _, rfl⟩ := List.mem_map.mp ht
  unfold ownT at hx
  have h := fmod5 ((((c.fdiv 6).fdiv 256).fdiv 4).fdiv (5 ^ k))
  generalize ((((c.fdiv 6).fdiv 256).fdiv 4).fdiv (5 ^ k)).fmod 5 = y at h hx
  have key : ∀ y ∈ [(0 : Int), 1, 2, 3, 4], ∀ x ∈ sg (PySem.Txt.item signT y), x ≠ 37 := by decide +kernel
  refine key y ?_ x hx
  obtain rfl | rfl | rfl | rfl | rfl : y = 0 ∨ y = 1 ∨ y = 2 ∨ y = 3 ∨ y = 4 := five_of h
  all_goals decide
theorem row_nop (c : Int) : NoP (sg (dRow c)) := by
  unfold dRow
  rw [sg_app, sg_tx]
  exact NoP.app (bl_nop (near_bl _ (near_sg _ (.inr rfl)))) (qd_nop (own_nop c))
theorem lit_nop {x : PySem.Str} (h : (sg x).all (· != 37) = true) : NoP (sg x) := fun y hy => by
  have := List.all_eq_true.mp h y hy; simpa using this
theorem base_nop (c : Int) : NoP (sg (dBase c)) := by
  unfold dBase; split
  · exact bl_nop (near_bl _ (near_sg _ (.inl rfl)))
  · exact lit_nop (by decide +kernel)
theorem head_nop (c : Int) : NoP (sg (headT (dKind c) (dRow c))) := by
  unfold headT headL
  rcases kind_cases c with h | h | h | h | h | h <;> rw [h]
  · exact lit_nop (x := PySem.Str.ofString "") (by decide +kernel)
  · exact lit_nop (x := PySem.Str.ofString "+\n") (by decide +kernel)
  · show NoP (sg (PySem.Str.ofString "+\n" ++ dRow c ++ PySem.Str.ofString "\n"))
    rw [sg_app, sg_app]
    exact NoP.app (NoP.app (lit_nop (by decide +kernel)) (row_nop c)) (lit_nop (by decide +kernel))
  · exact lit_nop (x := PySem.Str.ofString "*\n") (by decide +kernel)
  · exact lit_nop (x := PySem.Str.ofString ">\n") (by decide +kernel)
  · exact lit_nop (x := PySem.Str.ofString "@\n") (by decide +kernel)
theorem C1_nop (c : Int) : NoP (sg (dC1 c)) := by
  unfold dC1; rw [sg_app, sg_app]
  exact NoP.app (NoP.app (lit_nop (by decide +kernel)) (base_nop c)) (bl_nop (far_bl _ (far_sg _ (by decide))))
theorem C2_nop (c : Int) : NoP (sg (dC2 c)) := by
  unfold dC2; split
  · exact lit_nop (by decide +kernel)
  · rw [sg_app]; exact NoP.app (lit_nop (by decide +kernel)) (row_nop c)
/-- a stretch of plain signs, or none -/
theorem form_lit {L R : List Nat} {ls : List (List Nat)} {p : List Value} {out : List Nat} {k : Nat} (hL : NoP L) (hR : R = [] ∨ ∃ r, R = 37 :: r) (x : Form ls p R out k) :
    ∃ ls' k', Form ls' p (L ++ R) (L ++ out) k' ∧ k' ≤ k + 1 ∧ ∀ X ∈ ls', X ∈ ls ∨ X = L := by
  by_cases h : L = []
  · subst h; exact ⟨ls, k, x, Nat.le_succ _, fun _ h => .inl h⟩
  · exact ⟨_, _, .lit h hL hR x, Nat.le_refl _, fun X hX => (List.mem_cons.mp hX).elim .inr .inl⟩
theorem form_sg (c : Int) : sg (formT c) = (sg (headT (dKind c) (dRow c)) ++ sg (dBase c)) ++ 37 :: 37 :: ((10 :: (sg (dBase c) ++ sg (pieceT (c.fdiv 6) 1))) ++ 37 :: 115 :: (sg (dC1 c) ++ 37 :: 115 :: (sg (dC2 c) ++ []))) := by
  have e : sg (dC0 c) = (sg (headT (dKind c) (dRow c)) ++ sg (dBase c)) ++ 37 :: (10 :: (sg (dBase c) ++ sg (pieceT (c.fdiv 6) 1))) := by
    unfold dC0; simp only [sg_app, sg_pctn, List.append_assoc, List.cons_append, List.nil_append]
  have n1 : NoP (sg (headT (dKind c) (dRow c)) ++ sg (dBase c)) := NoP.app (head_nop c) (base_nop c)
  have n2 : NoP (10 :: (sg (dBase c) ++ sg (pieceT (c.fdiv 6) 1))) := by
    intro x hx
    rcases List.mem_cons.mp hx with q | q
    · omega
    · exact NoP.app (base_nop c) (bl_nop (far_bl _ (far_sg _ (by decide)))) x q
  unfold formT
  simp only [sg_app, sg_tx, sg_pcts]
  rw [e, dbl_app, dbl_none n1, dbl_cons, if_pos rfl, dbl_none n2]
  simp only [List.append_assoc, List.cons_append, List.nil_append, List.append_nil]
theorem lt_four {L A B C D N : Nat} (h : L ≤ A ∨ L ≤ B ∨ L ≤ C ∨ L ≤ D) (hA : A < N) (hB : B < N) (hC : C < N) (hD : D < N) : L < N := by
  rcases h with h | h | h | h
  · exact Nat.lt_of_le_of_lt h hA
  · exact Nat.lt_of_le_of_lt h hB
  · exact Nat.lt_of_le_of_lt h hC
  · exact Nat.lt_of_le_of_lt h hD
theorem form_is (c d : Int) : FormIs (formT d) (formT c) (sg (pageT d c)) := by
  intro u1 u2
  have n1 : NoP (sg (headT (dKind d) (dRow d)) ++ sg (dBase d)) := NoP.app (head_nop d) (base_nop d)
  have n2 : NoP (10 :: (sg (dBase d) ++ sg (pieceT (d.fdiv 6) 1))) := by
    intro x hx
    rcases List.mem_cons.mp hx with q | q
    · omega
    · exact NoP.app (base_nop d) (bl_nop (far_bl _ (far_sg _ (by decide)))) x q
  obtain ⟨l1, k1, x1, a1, b1⟩ := form_lit (C2_nop d) (.inl rfl) Form.fin
  have x2 := Form.arg (y := tx (qd (sg (formT d)))) (u := u2) x1
  obtain ⟨l3, k3, x3, a3, b3⟩ := form_lit (C1_nop d) (.inr ⟨_, rfl⟩) x2
  have x4 := Form.arg (y := tx (qd (sg (formT c)))) (u := u1) x3
  obtain ⟨l5, k5, x5, a5, b5⟩ := form_lit n2 (.inr ⟨_, rfl⟩) x4
  have x6 := Form.pct x5
  obtain ⟨l7, k7, x7, a7, b7⟩ := form_lit n1 (.inr ⟨_, rfl⟩) x6
  have hl := congrArg List.length (form_sg d)
  simp only [List.length_append, List.length_cons, List.length_nil] at hl
  have hp := far_two _ (far_sg (d.fdiv 6) (k := 1) (by decide))
  have hq := far_two _ (far_sg (d.fdiv 6) (k := 2) (by decide))
  have hc : (sg (pieceT (d.fdiv 6) 2)).length ≤ (sg (dC1 d)).length := by
    unfold dC1; simp only [sg_app, List.length_append]; omega
  have hL : (formT d).length = (sg (formT d)).length := sg_len _
  have hN := hL.trans hl
  clear hl hL x1 x2 x3 x4 x5 x6
  refine ⟨l7, k7, ?_, ?_, by clear b1 b3 b5 b7; omega, ?_, Nat.le_trans (formT_len d) (by decide)⟩
  · rw [← form_sg d] at x7
    have e : sg (pageT d c) = (sg (headT (dKind d) (dRow d)) ++ sg (dBase d)) ++ 37 :: ((10 :: (sg (dBase d) ++ sg (pieceT (d.fdiv 6) 1))) ++ (sg (tx (qd (sg (formT c)))) ++ (sg (dC1 d) ++ (sg (tx (qd (sg (formT d)))) ++ (sg (dC2 d) ++ []))))) := by
      unfold pageT dC0
      simp only [sg_app, sg_pctn, List.append_assoc, List.cons_append, List.nil_append, List.append_nil]
    rw [e]; exact x7
  · intro L h
    have key : L.length ≤ (sg (headT (dKind d) (dRow d))).length + (sg (dBase d)).length ∨ L.length ≤ (sg (dBase d)).length + (sg (pieceT (d.fdiv 6) 1)).length + 1 ∨ L.length ≤ (sg (dC1 d)).length ∨ L.length ≤ (sg (dC2 d)).length := by
      rcases b7 L h with h | h
      · rcases b5 L h with h | h
        · rcases b3 L h with h | h
          · rcases b1 L h with h | h
            · cases h
            · exact .inr (.inr (.inr (by rw [h]; exact Nat.le_refl _)))
          · exact .inr (.inr (.inl (by rw [h]; exact Nat.le_refl _)))
        · exact .inr (.inl (by rw [h]; simp))
      · exact .inl (by rw [h]; simp)
    clear b1 b3 b5 b7 a1 a3 a5 a7
    refine lt_four key ?_ ?_ ?_ ?_ <;> clear key <;> omega
  · have := pageT_len d c
    rw [sg_len] at this; omega
end
section
/-- what a page tells of the other -/
def toldV (c d : Int) (t : Tok) : Value :=
  if dKind c = 0 then .str (pageT d c) t
  else if dKind c = 1 then .str (pageT d c ++ dOwn c) t
  else if dKind c = 2 then .str (dOwn c ++ pageT d c) t
  else if dKind c = 3 then .str (PySem.Txt.mul (pageT d c) ((dOwn c).length : Int)) t
  else if dKind c = 4 then .bool (!(Builtin.Str.occurrences (pageT d c) (dOwn c) 0 (pageT d c).length 1).isEmpty)
  else .int (cntOf (sg (pageT d c)) (sg (dOwn c))) t
theorem fn_gm {w : World} {f : Addr} {dk uk : Nat} {vs : List Value} {news : List (Addr × Obj)} {R : Tok → Value} {s2 : Tok} (h : Fn w f dk uk vs news (Gives news R)) {dk' uk' : Nat} (h1 : dk ≤ dk') (h2 : uk ≤ uk') : Fn w f dk' uk' vs news (GivesM s2 news R) := by
  intro mean mg mb dp un gd cn cs a ccd cl outer A₀ base h₀ La m s Q E B F X N T hk hd hu hret
  exact h B F X N T hk (Nat.lt_of_le_of_lt (Nat.add_le_add_left h1 _) hd) (Nat.lt_of_le_of_lt (Nat.add_le_add_left h2 _) hu) hret.2
section
variable {w : World} {ln : Addr} {vn : List Value} {cn9 : Nat} {s2 : Tok} {c d : Int}
theorem do_name (K : Int) {parts : List Value} {v : Value} (h0 : 256 ≤ K) (h1 : K < 300) (hv : vn[(K - 256).toNat]? = some v) : DeedOf w ln vn cn9 K parts s2 (fun _ => v) :=
  fun lp np t news hn hp => fn_gm (deed_nameL hn h0 h1 hv) (by decide) (by decide)
theorem do_mod {t0 t1 : Tok} : DeedOf w ln vn cn9 24 [.str (formT d) t0, .str (formT c) t1] s2 (fun t => .str (pageT d c) t) :=
  fun lp np t news hn hp => fn_gm (by have := @deed_mod w ln lp vn cn9 np _ _ t t0 t1 news hn hp (Nat.le_trans (formT_len d) (by decide)) (Nat.le_trans (formT_len c) (by decide)) _ (form_is c d); rw [tx_sg] at this; exact @this) (Nat.le_refl _) (Nat.le_refl _)
theorem page_big (d c : Int) : (pageT d c).length ≤ 100000 := Nat.le_trans (pageT_len d c) (by decide)
theorem own_big (c : Int) : (dOwn c).length ≤ 3 := by
  unfold dOwn; rw [own_len]
  have := fmod4 ((c.fdiv 6).fdiv 256); omega
theorem do_outer {t0 : Tok} (h0 : dKind c ≠ 0) (h2 : dKind c ≠ 2) : DeedOf w ln vn cn9 (tokOf (sgnOf (dKind c))) [.str (pageT d c) t0, .str (dOwn c) s2] s2 (toldV c d) := by
  rcases kind_cases c with h | h | h | h | h | h
  · exact absurd h h0
  · have e : toldV c d = fun t => .str (pageT d c ++ dOwn c) t := by funext t; unfold toldV; simp [h]
    rw [e, h]
    exact fun lp np t news hn hp => fn_gm (deed_concat hn hp (page_big d c) (Nat.le_trans (own_big c) (by decide))) (Nat.le_refl _) (Nat.le_refl _)
  · exact absurd h h2
  · have e : toldV c d = fun t => .str (PySem.Txt.mul (pageT d c) ((dOwn c).length : Int)) t := by funext t; unfold toldV; simp [h]
    rw [e, h]
    exact fun lp np t news hn hp => fn_gm (deed_mul hn hp (page_big d c) (Nat.le_trans (own_big c) (by decide)) (own_big c)) (Nat.le_refl _) (Nat.le_refl _)
  · have e : toldV c d = fun _ => .bool (!(Builtin.Str.occurrences (pageT d c) (dOwn c) 0 (pageT d c).length 1).isEmpty) := by funext t; unfold toldV; simp [h]
    rw [e, h]
    exact fun lp np t news hn hp => fn_gm (deed_contains hn hp (page_big d c) (Nat.le_trans (own_big c) (by decide))) (Nat.le_refl _) (Nat.le_refl _)
  · have e : toldV c d = fun t => .int (cntOf (sg (pageT d c)) (sg (dOwn c))) t := by funext t; unfold toldV; simp [h]
    rw [e, h]
    exact fun lp np t news hn hp => deed_count hn hp (page_big d c)
theorem do_ahead {t0 t1 : Tok} (h : dKind c = 2) : DeedOf w ln vn cn9 14 [.str (dOwn c) t0, .str (pageT d c) t1] s2 (toldV c d) := by
  have e : toldV c d = fun t => .str (dOwn c ++ pageT d c) t := by funext t; unfold toldV; simp [h]
  rw [e]
  exact fun lp np t news hn hp => fn_gm (deed_concat hn hp (Nat.le_trans (own_big c) (by decide)) (page_big d c)) (Nat.le_refl _) (Nat.le_refl _)
end
/-- what is told so far -/
def tl0 (o v0 v1 : Value) : Nat → List Value
  | 0 => [.none, .none, .none]
  | 1 => [.none, .none, v1]
  | 2 => [.none, v0, v1]
  | _ => [o, v0, v1]
def tl1 (r o v0 v1 v2 : Value) : Nat → List Value
  | 0 => [.none, .none, .none, .none, .none]
  | 1 => [.none, .none, .none, .none, v2]
  | 2 => [.none, .none, .none, v1, v2]
  | 3 => [.none, .none, v0, v1, v2]
  | 4 => [.none, o, v0, v1, v2]
  | _ => [r, o, v0, v1, v2]
def tl2 (r v0 o v1 v2 : Value) : Nat → List Value
  | 0 => [.none, .none, .none, .none, .none]
  | 1 => [.none, .none, .none, .none, v2]
  | 2 => [.none, .none, .none, v1, v2]
  | 3 => [.none, .none, o, v1, v2]
  | 4 => [.none, v0, o, v1, v2]
  | _ => [r, v0, o, v1, v2]
theorem value_page {w : World} {lk ln la : Addr} {ck cn9 ca : Nat} {vk va vn : List Value} {c d : Int} {news : List (Addr × Obj)}
    (hk9 : (lk, listOf vk.toArray ck) ∈ news) (hn : (ln, listOf vn.toArray cn9) ∈ news) (ha : (la, listOf va.toArray ca) ∈ news) (hki : IntsAre vk (pKs c ++ [0])) (hns : StrsAre vn (pNs c d)) (hai : IntsAre va (pAb c)) :
    ∃ s2 y, .str y s2 ∈ vn ∧ Fn w 209 5 60 [.ref lk, .ref ln, .ref la] news (GivesM s2 news (toldV c d)) := by
  unfold pKs at hki
  unfold pNs at hns
  unfold pAb at hai
  by_cases h0 : dKind c = 0
  · rw [if_pos h0] at hki hns hai
    cases hns with
    | cons _ t0 r0 =>
    cases r0 with
    | cons _ t1 r1 =>
    cases r1 with
    | nil =>
    have e : toldV c d = fun t => .str (pageT d c) t := by funext t; unfold toldV; simp [h0]
    refine ⟨t0, _, .head _, ?_⟩
    rw [e]
    refine value_c (ks := [24, 256, 257]) (ab := [-1, 0, 0]) (fun i vals => ∃ t, vals = tl0 (.str (pageT d c) t) (.str (formT d) t0) (.str (formT c) t1) i) hk9 hn ha hki hai (by decide) rfl (by decide) (by decide) ⟨0, rfl⟩ ?_ ?_
    · rintro i vals hi ⟨t, rfl⟩ -
      obtain rfl | rfl | rfl : i = 0 ∨ i = 1 ∨ i = 2 := by simp only [List.length_cons, List.length_nil] at hi; omega
      · exact ⟨_, do_name 257 (by decide) (by decide) rfl, fun _ => ⟨0, rfl⟩⟩
      · exact ⟨_, do_name 256 (by decide) (by decide) rfl, fun _ => ⟨0, rfl⟩⟩
      · exact ⟨_, do_mod, fun t => ⟨t, rfl⟩⟩
    · rintro vals ⟨t, rfl⟩; exact ⟨t, rfl⟩
  · by_cases h2 : dKind c = 2
    · rw [if_neg h0, if_pos h2] at hki hns hai
      cases hns with
      | cons _ t0 r0 =>
      cases r0 with
      | cons _ t1 r1 =>
      cases r1 with
      | cons _ t2 r2 =>
      cases r2 with
      | nil =>
      refine ⟨t0, _, .head _, ?_⟩
      refine value_c (ks := [14, 256, 24, 257, 258]) (ab := [-1, 0, 0, 2, 2]) (fun i vals => ∃ t t', vals = tl2 (toldV c d t') (.str (dOwn c) t0) (.str (pageT d c) t) (.str (formT d) t1) (.str (formT c) t2) i) hk9 hn ha hki hai (by decide) rfl (by decide) (by decide) ⟨0, 0, rfl⟩ ?_ ?_
      · rintro i vals hi ⟨t, t', rfl⟩ -
        obtain rfl | rfl | rfl | rfl | rfl : i = 0 ∨ i = 1 ∨ i = 2 ∨ i = 3 ∨ i = 4 := by simp only [List.length_cons, List.length_nil] at hi; omega
        · exact ⟨_, do_name 258 (by decide) (by decide) rfl, fun _ => ⟨0, 0, rfl⟩⟩
        · exact ⟨_, do_name 257 (by decide) (by decide) rfl, fun _ => ⟨0, 0, rfl⟩⟩
        · exact ⟨_, do_mod, fun t => ⟨t, 0, rfl⟩⟩
        · exact ⟨_, do_name 256 (by decide) (by decide) rfl, fun _ => ⟨t, 0, rfl⟩⟩
        · exact ⟨_, do_ahead h2, fun t' => ⟨t, t', rfl⟩⟩
      · rintro vals ⟨t, t', rfl⟩; exact ⟨t', rfl⟩
    · rw [if_neg h0, if_neg h2] at hki hns hai
      cases hns with
      | cons _ t0 r0 =>
      cases r0 with
      | cons _ t1 r1 =>
      cases r1 with
      | cons _ t2 r2 =>
      cases r2 with
      | nil =>
      refine ⟨t2, _, .tail _ (.tail _ (.head _)), ?_⟩
      have hz : tokOf (sgnOf (dKind c)) ≠ 0 := by
        unfold tokOf; repeat' split
        all_goals decide
      refine @value_c w lk ln la ck cn9 ca [tokOf (sgnOf (dKind c)), 24, 256, 257, 258] [-1, 0, 1, 1, 0] vk va _ t2 (toldV c d) news (fun i vals => ∃ t t', vals = tl1 (toldV c d t') (.str (pageT d c) t) (.str (formT d) t0) (.str (formT c) t1) (.str (dOwn c) t2) i) hk9 hn ha hki hai
        (List.forall_mem_cons.mpr ⟨hz, by decide⟩) rfl (Nat.zero_lt_succ _) (Nat.le_of_ble_eq_true rfl) ⟨0, 0, rfl⟩ ?_ ?_
      · rintro i vals hi ⟨t, t', rfl⟩ -
        obtain rfl | rfl | rfl | rfl | rfl : i = 0 ∨ i = 1 ∨ i = 2 ∨ i = 3 ∨ i = 4 := by simp only [List.length_cons, List.length_nil] at hi; omega
        · exact ⟨_, do_name 258 (by decide) (by decide) rfl, fun _ => ⟨0, 0, rfl⟩⟩
        · exact ⟨_, do_name 257 (by decide) (by decide) rfl, fun _ => ⟨0, 0, rfl⟩⟩
        · exact ⟨_, do_name 256 (by decide) (by decide) rfl, fun _ => ⟨0, 0, rfl⟩⟩
        · exact ⟨_, do_mod, fun t => ⟨t, 0, rfl⟩⟩
        · exact ⟨_, do_outer h0 h2, fun t' => ⟨t, t', rfl⟩⟩
      · rintro vals ⟨t, t', rfl⟩; exact ⟨t', rfl⟩
end
section
/-- it hands back what stands on a page -/
abbrev GivesPage (c d : Int) (news : List (Addr × Obj)) (h₀ : Heap) (La : Addr) (m : PySem.Str → Option Value) (s : Shared) (Q _E : Value → Shared → Prop) : Prop :=
  ∀ (a lk ln la : Addr) (vk vn va : List Value) (ck cn ca : Nat) (h' : Heap) (tk' : Nat), IntsAre vk (pKs c ++ [0]) → StrsAre vn (pNs c d) → TokAll tk' vn → IntsAre va (pAb c) → Fr h₀ La h' m →
    News h₀ La h' ((a, tupO [.ref lk, .ref ln, .ref la] 0) :: (lk, listOf vk.toArray ck) :: (ln, listOf vn.toArray cn) :: (la, listOf va.toArray ca) :: news) → Q (.ref a) { s with heap := h', toks := tk' }
theorem read_page {w : World} {c d : Int} {t : Tok} {news : List (Addr × Obj)} : Fn w 197 3 200 [Value.str (pageT c d) t] news (GivesPage c d news) := by
  intro mean mg mb dp un gd cn cs a ccd cl outer A₀ base h₀ La m s Q E B F X N T hk hd hu hret
  have hl : (pageT c d).length = (pgOf (rwsOf c d)).length := by rw [sg_len, page_rows]
  refine read_c (Nat.le_trans (pageT_len c d) (by decide)) ?_ B F X N T hk hd hu ?_
  · rw [page_rows, hl]; exact rows_ok (rws_ok c d) (rws_len c d)
  · intro a lk ln la vk vn va ck cn ca i h' tk' h1 h2 hki hns htk hab F' N'
    rw [page_rows, hl] at h1 h2
    have e := rows_end (rws_ok c d) h1 h2
    rw [page_rows, e] at hki hns hab
    rw [read_ks] at hki
    rw [read_ns] at hns
    rw [read_ab] at hab
    exact hret a lk ln la vk vn va ck cn ca h' tk' hki hns htk hab F' N'
theorem pKs_ok (c : Int) : ∀ k ∈ pKs c ++ [0], 0 ≤ k ∧ k ≠ 1 := by
  unfold pKs tokOf
  repeat' split
  all_goals decide
theorem pKs_len (c : Int) : (pKs c ++ [0]).length ≤ 1000 := by
  unfold pKs; repeat' split
  all_goals exact Nat.le_of_ble_eq_true rfl
/-! what is due -/
theorem count_own {x y : PySem.Str} (h : y.length = 1) : PySem.Txt.count x y = cntOf (sg x) (sg y) := by
  obtain ⟨c, e⟩ : ∃ c, sg y = [c] := List.length_eq_one_iff.mp (by rw [← sg_len]; exact h)
  have ey : y = ⟨#[c]⟩ := sg_inj e
  rw [ey, count_cnt]
  show cnt c (sg x) = _
  unfold cntOf
  have e1 : sg (⟨#[c]⟩ : PySem.Str) = [c] := rfl
  rw [e1]
  generalize sg x = l
  induction l with
  | nil => rfl
  | cons a r ih =>
    rw [cnt_cons, ih, List.filter_cons]
    by_cases q : a = c
    · subst q; simp; omega
    · simp [q]
theorem count_none {x y : PySem.Str} (h : ¬ y.length = 1) : (0 : Int) = cntOf (sg x) (sg y) := by
  unfold cntOf
  rw [List.filter_eq_nil_iff.mpr]
  · rfl
  · intro c _ e
    apply h
    rw [sg_len, ← of_decide_eq_true e]; rfl
theorem join_mul {x : PySem.Str} {n : Nat} (h : n ≤ 3) : PySem.Txt.join (PySem.Str.ofString "") ((List.range n).map fun _ => x) = PySem.Txt.mul x (n : Int) := by
  apply sg_inj
  rw [sg_join]
  have h0 : ∀ y : PySem.Str, sg y = [] ↔ y.length = 0 := fun y => by rw [sg_len]; exact List.length_eq_zero_iff.symm
  obtain rfl | rfl | rfl | rfl : n = 0 ∨ n = 1 ∨ n = 2 ∨ n = 3 := by omega
  · rfl
  · show [sg x].flatten = sg (if ((1 : Nat) : Int) < 1 then PySem.Str.empty else if (((1 : Nat) : Int) == 1 || x.length == 0) = true then x else _)
    simp
  · show [sg x, sg x].flatten = sg (if ((2 : Nat) : Int) < 1 then PySem.Str.empty else if (((2 : Nat) : Int) == 1 || x.length == 0) = true then x else ⟨#[] ++ x.cps ++ x.cps⟩)
    by_cases q : x.length = 0
    · have := (h0 x).mpr q; simp [q, this]
    · simp [q, sg]
  · show [sg x, sg x, sg x].flatten = sg (if ((3 : Nat) : Int) < 1 then PySem.Str.empty else if (((3 : Nat) : Int) == 1 || x.length == 0) = true then x else ⟨#[] ++ x.cps ++ x.cps ++ x.cps⟩)
    by_cases q : x.length = 0
    · have := (h0 x).mpr q; simp [q, this]
    · simp [q, sg]
section
variable {prog : Program} {w : World} {A : Around} {E : Value → Shared → Prop} {s : Shared} {h₀ : Heap} {La l : Addr} {news : List (Addr × Obj)} {Q : Value → Shared → Prop}
theorem due_at {c d : Int} {t0 t1 t2 t3 t5 : Tok} : ∃ t, [Value.str (pageT d c) t0, .str (pageT d c ++ dOwn c) t1, .str (dOwn c ++ pageT d c) t2, .str (PySem.Txt.mul (pageT d c) ((dOwn c).length : Int)) t3, .bool (!(Builtin.Str.occurrences (pageT d c) (dOwn c) 0 (pageT d c).length 1).isEmpty), .int (cntOf (sg (pageT d c)) (sg (dOwn c))) t5][(dKind c).toNat]? = some (toldV c d t) := by
  unfold toldV
  generalize pageT d c = o, dOwn c = w
  rcases kind_cases c with e | e | e | e | e | e
  · rw [e]; exact ⟨t0, rfl⟩
  · rw [e]; exact ⟨t1, rfl⟩
  · rw [e]; exact ⟨t2, rfl⟩
  · rw [e]; exact ⟨t3, rfl⟩
  · rw [e]; exact ⟨0, rfl⟩
  · rw [e]; exact ⟨t5, rfl⟩
/-- what is due, by the kind -/
theorem item_due {c d : Int} {n : Nat} {u t0 t1 t2 t3 t5 : Tok} {value slice : Expr} (N : News h₀ La s.heap news)
    (hb : (l, listOf #[.str (pageT d c) t0, .str (pageT d c ++ dOwn c) t1, .str (dOwn c ++ pageT d c) t2, .str (PySem.Txt.mul (pageT d c) ((dOwn c).length : Int)) t3, .bool (!(Builtin.Str.occurrences (pageT d c) (dOwn c) 0 (pageT d c).length 1).isEmpty), .int (cntOf (sg (pageT d c)) (sg (dOwn c))) t5] n) ∈ news)
    (h : ∀ t, Q (toldV c d t) s)
    (hs : subscripted slice false (.ref l) (.int (dKind c) u) = operate [.ref l, .int (dKind c) u] (getItem (.ref l) (.int (dKind c) u)) := by with_unfolding_all rfl) :
    wpAny (model prog w) A (subscriptTail value slice (.ref l) (.int (dKind c) u)) Q E s := by
  obtain ⟨t, ht⟩ := due_at (c := c) (d := d) (t0 := t0) (t1 := t1) (t2 := t2) (t3 := t3) (t5 := t5)
  exact lst_at N hb (decide_eq_true (fmod6 c).1) (Nat.ble_eq.mpr (by simp)) ht (h t) hs
theorem told_cases (c d : Int) : (∃ x : PySem.Str, ∀ t, toldV c d t = .str x t) ∨ (∃ b : Bool, ∀ t, toldV c d t = .bool b) ∨ ∃ n : Int, ∀ t, toldV c d t = .int n t := by
  unfold toldV
  generalize pageT d c = o, dOwn c = w
  rcases kind_cases c with e | e | e | e | e | e <;> rw [e]
  · exact .inl ⟨_, fun _ => rfl⟩
  · exact .inl ⟨_, fun _ => rfl⟩
  · exact .inl ⟨_, fun _ => rfl⟩
  · exact .inl ⟨_, fun _ => rfl⟩
  · exact .inr (.inl ⟨_, fun _ => rfl⟩)
  · exact .inr (.inr ⟨_, fun _ => rfl⟩)
theorem cmp_told {c d : Int} {t u : Tok} (h : Q (.bool false) s) : wpAny (model prog w) A (compareOp .NotEq (toldV c d t) (toldV c d u)) Q E s := by
  rcases told_cases c d with ⟨x, e⟩ | ⟨x, e⟩ | ⟨x, e⟩ <;> rw [e, e]
  · exact ne_str (by rw [bne_self_eq_false]; exact h)
  · exact ne_bool (by rw [bne_self_eq_false]; exact h)
  · exact P.ne_int (by rw [bne_self_eq_false]; exact h)
theorem is_told {c d : Int} {t u : Tok} (hk : dKind c = 4) (h : Q (.bool false) s) : wpAny (model prog w) A (compareOp .IsNot (toldV c d t) (toldV c d u)) Q E s := by
  have e : ∃ b : Bool, ∀ t, toldV c d t = .bool b := by
    unfold toldV
    generalize pageT d c = o, dOwn c = w
    rw [hk]; exact ⟨_, fun _ => rfl⟩
  obtain ⟨b, e⟩ := e
  rw [e, e]
  exact wpAny_isNot_self rfl h
/-- a known value, its ways met -/
def ValJoin (v0 : Value) (s : Shared) (v : Value) (s' : Shared) : Prop := v = v0 ∧ ∃ tk, s' = { s with toks := tk }
theorem join_val {env : Env} {e : Expr} (v0 : Value) (h1 : wpAny (model prog w) A (eval e env) (ValJoin v0 s) E s) (h2 : ∀ tk, Q v0 { s with toks := tk }) : wpAny (model prog w) A (eval e env) Q E s :=
  wpAny_mono h1 (fun v s' ⟨e1, tk, e2⟩ => by rw [e1, e2]; exact h2 tk) fun _ _ e => e
def IntJoin (r : Int) (s : Shared) (v : Value) (s' : Shared) : Prop := ∃ t tk, v = .int r t ∧ s' = { s with toks := tk }
theorem join_int {env : Env} {e : Expr} (r : Int) (h1 : wpAny (model prog w) A (eval e env) (IntJoin r s) E s) (h2 : ∀ t tk, Q (.int r t) { s with toks := tk }) : wpAny (model prog w) A (eval e env) Q E s :=
  wpAny_mono h1 (fun v s' ⟨t, tk, e1, e2⟩ => by rw [e1, e2]; exact h2 t tk) fun _ _ e => e
theorem intJoin_mk {r r' : Int} {t : Tok} {tk : Nat} (e : r' = r) : IntJoin r s (.int r' t) { s with toks := tk } := ⟨t, tk, by rw [e], rfl⟩
theorem intJoin_mk0 {r r' : Int} {t : Tok} (e : r' = r) : IntJoin r s (.int r' t) s := ⟨t, s.toks, by rw [e], rfl⟩
end
/-! a comprehension over a text -/
section
variable {prog : Program} {w : World} {A : Around} {E : Value → Shared → Prop} {s : Shared} {h₀ : Heap} {L : Addr} {m : PySem.Str → Option Value} {env : Env}
def CompSrcS (prog : Program) (w : World) (A : Around) (h₀ : Heap) (L : Addr) (m : PySem.Str → Option Value) (env : Env) (elt : Expr) (x : PySem.Str) (scope : Scope) (cl : List (PySem.Str × Addr)) (Fin : Shared → List Value → List (Addr × Obj) → Prop) (xv : Value) (s₁ : Shared) : Prop :=
  ∃ xt t news, xv = .str xt t ∧ A.handled = none ∧ Fr h₀ L s₁.heap m ∧ News h₀ L s₁.heap news ∧ xt.cps.size ≤ sizeLine ∧
    ∀ s₂ : Shared, (∃ h, s₂ = { s₁ with heap := h }) → LCg.CompRest prog w A h₀ L m env elt x scope cl s₂ (fun _ => True) (SignAt xt) (Fin s₂) xt.cps.size 0 [] news
theorem CompSrcS.mk {elt : Expr} {x : PySem.Str} {scope : Scope} {cl : List (PySem.Str × Addr)} {Fin : Shared → List Value → List (Addr × Obj) → Prop} {xt : PySem.Str} {t : Tok} {news : List (Addr × Obj)} {s₁ : Shared}
    (hh : A.handled = none) (F : Fr h₀ L s₁.heap m) (N : News h₀ L s₁.heap news) (hsz : xt.cps.size ≤ 1000)
    (h : ∀ g, LCg.CompRest prog w A h₀ L m env elt x scope cl { s₁ with heap := g } (fun _ => True) (SignAt xt) (Fin { s₁ with heap := g }) xt.cps.size 0 [] news) : CompSrcS prog w A h₀ L m env elt x scope cl Fin (.str xt t) s₁ :=
  ⟨xt, t, news, rfl, hh, F, N, by rw [PySem.sizeLine_eq]; exact Nat.le_trans hsz (by decide), fun _ ⟨g, e⟩ => e ▸ h g⟩
theorem str_st {I : Addr} {ty : String} {xt : PySem.Str} {t : Tok} : ∀ i (h h' : Heap) (o : Obj) (nw : List (Addr × Obj)), h.IsStrIter I ty xt t i → h.get? I = some o → h'.get? I = some o → (∀ b o, h₀.get? b = some o → h'.get? b = some o) → News h₀ L h' nw → True → h'.IsStrIter I ty xt t i :=
  fun i h h' o nw st e e' _ _ _ => by
    obtain ⟨o', q, r⟩ := st
    rw [e] at q; cases q
    exact ⟨o, e', r⟩
theorem ListComp_S {elt iter : Expr} {x : PySem.Str} {px : Pos} {scope : Scope} {cl : List (PySem.Str × Addr)} {pos : Pos} {Q : Value → Shared → Prop} (_F₀ : Fr h₀ L s.heap m)
    (hclos : closureFor scope env = pure cl) (hcell : ∀ y ∈ scope.names, y.2 ≠ .cell) (hkind : scope.kind = .function)
    (hnames : ∀ y ∈ scope.names, y.2 = .local → scope.names.lookup y.1 = some .local) (hx : scope.names.lookup x = some .local)
    (h : wpAny (model prog w) A (eval iter env) (CompSrcS prog w A h₀ L m env elt x scope cl (fun s₂ => LCg.FinE h₀ L m s₂ Q)) E s)
    (hs : ∀ x, foldedSetIterable iter env x = pure x := by intro _; rfl) :
    wpAny (model prog w) A (eval (.ListComp elt [⟨.Name x px, iter, [], 0⟩] scope pos) env) Q E s := by
  rw [eval_ListComp]
  refine wpAny_comprehension_free (use := none) rfl hs hclos hkind hnames (wpAny_mono h (fun xv s₁ h₁ => ?_) fun _ _ e => e)
  obtain ⟨xt, t, news, rfl, hh, F, N, hsz, R⟩ := h₁
  have fin : ∀ (D C : Addr) (h : Heap) (tk : Nat) (m' : PySem.Str → Option Value) (ys : List Value) (news' : List (Addr × Obj)) (s₂ : Shared), Fr h₀ L h m → News h₀ L h ((D, LCg.lst ys) :: news') → LCg.Off1 D news' → h.Ns C m' → h₀.get? C = none → C ≠ L → C ≠ D → (∀ p ∈ news', p.1 ≠ C) → LCg.FinE h₀ L m s₂ Q ys news' →
      ∃ m', h.Ns C m' ∧ ∀ h'', Heap.SameBut C h h'' → Q (.ref D) { s₂ with heap := h'', toks := tk } := by
    intro D C h tk m' ys news' s₂ F' N' o1 hn hC₀ hCL hCD offC fin
    refine ⟨m', hn, fun h'' hs'' => fin D h'' tk (F'.change hs'' hCL hC₀) (fun p hp => ?_) o1⟩
    refine ⟨hs''.extBut _ _ ?_ (N' p hp).1, (N' p hp).2⟩
    rcases List.mem_cons.mp hp with rfl | hp
    · exact Ne.symm hCD
    · exact offC p hp
  cases ha : xt.cps.all (· < 128)
  · refine wpAny_pyIter_wide ha ?_
    refine LCg.block_U (Walks.strWide hh s₁.heap.objs.size xt t) hsz (fun i h st => by obtain ⟨o, e, _⟩ := st; exact ⟨o, e⟩) str_st hcell hkind hx ⟨_, Heap.get?_push_size _ rfl, rfl, rfl⟩ (fun b hb => ?_)
      (F.push _) (News.pushKeep N _) (Nat.ne_of_lt F.ns.lt) (next_is_new F) (fun p hp => Nat.ne_of_lt (Heap.lt_size (N p hp).1)) True.intro (R _ ⟨_, rfl⟩) ?_
    · rw [List.mem_singleton.mp hb]
      show s₁.heap.objs.size < (s₁.heap.push _).objs.size
      rw [Heap.size_push]; exact Nat.lt_succ_self _
    · intro D C h tk m' ys news' F' N' o1 hn hC₀ hD₀ hCL hDL hCD offC fin'
      exact fin D C h tk m' ys news' _ F' N' o1 hn hC₀ hCL hCD offC fin'
  · refine wpAny_pyIter_ascii ha ?_
    refine LCg.block_U (Walks.strAscii hh s₁.heap.objs.size xt t) hsz (fun i h st => by obtain ⟨o, e, _⟩ := st; exact ⟨o, e⟩) str_st hcell hkind hx ⟨_, Heap.get?_push_size _ rfl, rfl, rfl⟩ (fun b hb => ?_)
      (F.push _) (News.pushKeep N _) (Nat.ne_of_lt F.ns.lt) (next_is_new F) (fun p hp => Nat.ne_of_lt (Heap.lt_size (N p hp).1)) True.intro (R _ ⟨_, rfl⟩) ?_
    · rw [List.mem_singleton.mp hb]
      show s₁.heap.objs.size < (s₁.heap.push _).objs.size
      rw [Heap.size_push]; exact Nat.lt_succ_self _
    · intro D C h tk m' ys news' F' N' o1 hn hC₀ hD₀ hCL hDL hCD offC fin'
      exact fin D C h tk m' ys news' _ F' N' o1 hn hC₀ hCL hCD offC fin'
end
/-! the replies -/
theorem pre_ne {x y : PySem.Str} {a b c e : Nat} (h : sg y = [a, b, c, e]) (hn : ¬ [a, b, c] = [50, 53, 55]) : (PySem.Txt.slice (y ++ x) none (some 3) != PySem.Str.ofString "257") = true := by
  refine bne_of' fun q => hn ?_
  have := congrArg sg q
  rw [slice_to _ (by decide), sg_app, h, sg_257'] at this
  exact this
theorem pre_eq {x y : PySem.Str} {l : List Nat} (h : sg y = 50 :: 53 :: 55 :: l) : (PySem.Txt.slice (y ++ x) none (some 3) != PySem.Str.ofString "257") = false := by
  refine bne_of (sg_inj ?_)
  rw [slice_to _ (by decide), sg_app, h, sg_257']; rfl
theorem mid_ne {x y : PySem.Str} {a b c e : Nat} {l : List Nat} (h : sg y = a :: b :: c :: e :: l) (hn : ¬ (e :: (l ++ sg x)).take 2 = [32, 34]) : (PySem.Txt.slice (y ++ x) (some 3) (some 5) != PySem.Str.ofString " \"") = true := by
  refine bne_of' fun q => hn ?_
  have := congrArg sg q
  rw [slice_nn _ (by decide) (by decide), sg_app, h, sg_bm] at this
  exact this
theorem slice_le (x : PySem.Str) {i : Int} (h : 0 ≤ i) : (PySem.Txt.slice x (some i) none).length ≤ x.length := slice_len x h
theorem own_fit (c : Int) : ¬ ((dOwn c).length : Int) ≥ 2 ^ 63 := by
  have := own_big c; omega
theorem c0_fit (c : Int) : ¬ ((dC0 c).length : Int) ≥ 2 ^ 63 := by
  have := dC0_len c; omega
theorem own_sz (c : Int) : (dOwn c).cps.size ≤ 1000 := Nat.le_trans (own_big c) (by decide)
section
variable {prog : Program} {w : World} {A : Around} {E : Value → Shared → Prop} {s : Shared} {Q : Value → Shared → Prop}
theorem sum_same (k : Nat) : ∀ n, (((List.range n).map fun _ => k)).sum = n * k
  | 0 => by simp
  | n + 1 => by rw [List.range_succ, List.map_append, List.sum_append, sum_same k n, Nat.succ_mul]; rfl
theorem join_due {D : Addr} {ys : List Value} {O : PySem.Str} {n : Nat} {t : Tok} (hl : s.heap.IsList D ys.toArray) (hi : StrsAre ys ((List.range n).map fun _ => O)) (hn : n ≤ 3) (hO : O.length ≤ 1000)
    (h : ∀ t' k, Q (.str (PySem.Txt.mul O (n : Int)) t') { s with toks := k }) : wpAny (model prog w) A (call (.builtin "str.join") [.str (PySem.Str.ofString "") t, .ref D]) Q E s := by
  refine join_listW hl hi (by decide +kernel) ?_ fun t' k => by rw [join_mul hn]; exact h t' k
  rw [List.map_map, List.length_map, List.length_range]
  have : ((List.range n).map ((fun x : PySem.Str => x.length) ∘ fun _ => O)).sum = n * O.length := sum_same O.length n
  rw [this]
  have : n * O.length ≤ 3 * 1000 := Nat.mul_le_mul hn hO
  omega
end
/-- it tells what a page tells -/
abbrev GivesTold (tk9 : Nat) (c d : Int) (news : List (Addr × Obj)) (h₀ : Heap) (La : Addr) (m : PySem.Str → Option Value) (s : Shared) (Q _E : Value → Shared → Prop) : Prop :=
  tk9 ≤ s.toks ∧ ∀ (t : Tok) (h' : Heap) (tk' : Nat), Fr h₀ La h' m → News h₀ La h' news → Q (toldV c d t) { s with heap := h', toks := tk' }
theorem value_go {w : World} {lk ln la : Addr} {ck cn9 ca tk9 : Nat} {vk va vn : List Value} {c d : Int} {news : List (Addr × Obj)} (hki : IntsAre vk (pKs c ++ [0])) (hns : StrsAre vn (pNs c d)) (hai : IntsAre va (pAb c)) (htk : TokAll tk9 vn)
    (hk9 : (lk, listOf vk.toArray ck) ∈ news) (hn : (ln, listOf vn.toArray cn9) ∈ news) (ha : (la, listOf va.toArray ca) ∈ news) : Fn w 209 5 60 [.ref lk, .ref ln, .ref la] news (GivesTold tk9 c d news) := by
  intro mean mg mb dp un gd cn cs a ccd cl outer A₀ base h₀ La m s Q E B F X N T hk hd hu ⟨hle, hret⟩
  obtain ⟨s2, y, hy, hV⟩ := @value_page w lk ln la ck cn9 ca vk va vn c d news hk9 hn ha hki hns hai
  exact hV B F X N T hk hd hu ⟨(htk _ hy y s2 rfl).le hle, hret⟩
theorem page_sz (c d : Int) : (pageT c d).length ≤ sizeLine := by rw [PySem.sizeLine_eq]; exact Nat.le_trans (pageT_len c d) (by decide)
theorem reply_sz (c d : Int) : (PySem.Txt.slice (pageT c d) (some ((dC0 c).length : Int)) none).length ≤ sizeLine := by rw [PySem.sizeLine_eq]; exact Nat.le_trans (slice_le _ (Int.natCast_nonneg _)) (Nat.le_trans (pageT_len c d) (by decide))
theorem code_len {x y : PySem.Str} (hx : decide (x.length ≤ 5) = true) (hy : y.length ≤ 442) : (x ++ y).length ≤ 100000 := Nat.le_trans (len_add (lit_len hx) hy) (by decide)
theorem reply_len (c d : Int) : (PySem.Txt.slice (pageT c d) (some ((dC0 c).length : Int)) none).length ≤ 442 := Nat.le_trans (slice_le _ (Int.natCast_nonneg _)) (pageT_len _ _)
theorem reply_len1 (c d : Int) : (PySem.Txt.slice (PySem.Txt.slice (pageT c d) (some ((dC0 c).length : Int)) none) (some 1) none).length ≤ 442 := Nat.le_trans (slice_le _ (by decide)) (reply_len c d)
theorem sg_c1 : sg (PySem.Str.ofString "157 ") = [49, 53, 55, 32] := by decide +kernel
theorem sg_c2 : sg (PySem.Str.ofString "207 ") = [50, 48, 55, 32] := by decide +kernel
theorem sg_c3 : sg (PySem.Str.ofString "256 ") = [50, 53, 54, 32] := by decide +kernel
theorem sg_c4 : sg (PySem.Str.ofString " 257") = [32, 50, 53, 55] := by decide +kernel
theorem sg_c5 : sg (PySem.Str.ofString "257-") = 50 :: 53 :: 55 :: 45 :: [] := by decide +kernel
theorem sg_c6 : sg (PySem.Str.ofString "257 a") = 50 :: 53 :: 55 :: 32 :: [97] := by decide +kernel
theorem lc1 : decide ((PySem.Str.ofString "157 ").length ≤ 5) = true := by decide +kernel
theorem lc2 : decide ((PySem.Str.ofString "207 ").length ≤ 5) = true := by decide +kernel
theorem lc3 : decide ((PySem.Str.ofString "256 ").length ≤ 5) = true := by decide +kernel
theorem lc4 : decide ((PySem.Str.ofString " 257").length ≤ 5) = true := by decide +kernel
theorem lc5 : decide ((PySem.Str.ofString "257-").length ≤ 5) = true := by decide +kernel
theorem lc6 : decide ((PySem.Str.ofString "257 a").length ≤ 5) = true := by decide +kernel
theorem pre1 (x : PySem.Str) : (PySem.Txt.slice (PySem.Str.ofString "157 " ++ x) none (some 3) != PySem.Str.ofString "257") = true := pre_ne sg_c1 (by decide)
theorem pre2 (x : PySem.Str) : (PySem.Txt.slice (PySem.Str.ofString "207 " ++ x) none (some 3) != PySem.Str.ofString "257") = true := pre_ne sg_c2 (by decide)
theorem pre3 (x : PySem.Str) : (PySem.Txt.slice (PySem.Str.ofString "256 " ++ x) none (some 3) != PySem.Str.ofString "257") = true := pre_ne sg_c3 (by decide)
theorem pre4 (x : PySem.Str) : (PySem.Txt.slice (PySem.Str.ofString " 257" ++ x) none (some 3) != PySem.Str.ofString "257") = true := pre_ne sg_c4 (by decide)
theorem mid5 (x : PySem.Str) : (PySem.Txt.slice (PySem.Str.ofString "257-" ++ x) (some 3) (some 5) != PySem.Str.ofString " \"") = true := mid_ne sg_c5 (by simp)
theorem mid6 (x : PySem.Str) : (PySem.Txt.slice (PySem.Str.ofString "257 a" ++ x) (some 3) (some 5) != PySem.Str.ofString " \"") = true := mid_ne sg_c6 (by simp)
/-- a known test, its ways met -/
def BoolJoin (b0 : Bool) (s : Shared) (b : Bool) (s' : Shared) : Prop := b = b0 ∧ ∃ tk, s' = { s with toks := tk }
theorem join_test {M : Model} {A : Around} {t : Sem Bool} {Q : Bool → Shared → Prop} {E : Value → Shared → Prop} {s : Shared} (b0 : Bool) (h1 : wpAny M A t (BoolJoin b0 s) E s) (h2 : ∀ tk, Q b0 { s with toks := tk }) : wpAny M A t Q E s :=
  wpAny_mono h1 (fun v s' ⟨e1, tk, e2⟩ => by rw [e1, e2]; exact h2 tk) fun _ _ e => e
/-- a cell is no list and no tuple -/
theorem ne_cell {h₀ h : Heap} {L a b : Addr} {news : List (Addr × Obj)} {o ob : Obj} {v : Option Value} {its : Array Value} {n : Nat} (N : News h₀ L h news) (hb : (b, ob) ∈ news) (ha : (a, o) ∈ news) (ho : o.data = .cell v) (hob : ob.data = .seq its n) : b ≠ a := by
  intro e
  have e1 := (N _ hb).1
  have e2 := (N _ ha).1
  dsimp only at e1 e2
  rw [e, e2] at e1
  cases e1
  rw [ho] at hob; cases hob
theorem news_off {h₀ h : Heap} {L : Addr} {x : Addr × Obj} {l : List (Addr × Obj)} (N : News h₀ L h (x :: l)) : News h₀ L h l := fun p hp => N p (.tail _ hp)
section
variable {prog : Program} {w : World} {A : Around} {E : Value → Shared → Prop} {s : Shared} {h₀ : Heap} {La l : Addr} {news : List (Addr × Obj)} {Q : Value → Shared → Prop} {n : Nat}
theorem in_bools (N : News h₀ La s.heap news) (hb : (l, listOf [Value.bool true, .bool true, .bool true, .bool true].toArray n) ∈ news) (hu : A.units + 65 < cLine) (h : Q (.bool false) s) : wpAny (model prog w) A (compareOp .In (.bool false) (.ref l)) Q E s := by
  refine in_list_dataS (xs := [.bool true, .bool true, .bool true, .bool true]) (d := .bool false) (.list (N _ hb).1 rfl rfl (.cons (.bool _) (.cons (.bool _) (.cons (.bool _) (.cons (.bool _) .nil))))) (.bool _) (by decide +kernel) (by decide +kernel) hu (by decide +kernel) ?_
  rw [show decide (countIn (.bool false) [PyData.bool true, .bool true, .bool true, .bool true] ≠ 0) = false by decide +kernel]
  exact h
end
section
variable {prog : Program} {w : World} {A : Around} {E : Value → Shared → Prop} {s : Shared} {h₀ : Heap} {La a b : Addr} {news : List (Addr × Obj)} {Q : Value → Shared → Prop} {n k : Nat} {t1 t2 t3 u1 u2 u3 : Tok}
theorem ne_three (N : News h₀ La s.heap news) (ma : (a, listOf [Value.str (PySem.Str.ofString "") t1, .str (PySem.Str.ofString "") t2, .str (PySem.Str.ofString "") t3].toArray n) ∈ news) (mb : (b, listOf [Value.str (PySem.Str.ofString "") u1, .str (PySem.Str.ofString "") u2, .str (PySem.Str.ofString "") u3].toArray k) ∈ news)
    (hu : A.units + 64 < cLine) (h : Q (.bool false) s) : wpAny (model prog w) A (compareOp .NotEq (.ref a) (.ref b)) Q E s := by
  refine kqd_ne (n₁ := []) (n₂ := []) N ma rfl rfl (.cons (.str _ _) (.cons (.str _ _) (.cons (.str _ _) .nil))) (fun _ h => nomatch h) mb rfl rfl (.cons (.str _ _) (.cons (.str _ _) (.cons (.str _ _) .nil))) (fun _ h => nomatch h) ?_ ?_ hu ?_
  · decide +kernel
  · decide +kernel
  · have e : ∀ x : Dat, (!@decide (x = x) (Classical.propDecidable _)) = false := fun x => by simp
    simpa using h
end
end
section
set_option maxHeartbeats 8000000 in
theorem law_c : PySem.Challenge.rw_wo0069_01.Holds := hd (by
  k_go0
  rename_i w s₀ s₁ mg mb G Y fa o pm doc ho hg KX X V GL T B TE TW a1 o9 M a2 a3 hcd ns hs hlay0 hL1 hr1 hl2 as1 as2 lS vs as3 hL ra w1 r0 hI hr hc1 hc2 K0 hD h₁ tk₁ F0 oA oB dA dB N0 X0
  clear X V GL B TE TW M hs hlay0 hL1 hr1 hl2 ra w1 r0 hr hc2 hD ho X0 hcd
  change Below callerA s₁.heap [] s₁.heap at K0
  have hz : ns.length ≤ 63 := by omega
  clear hc1
  have F1 : Fr s₁.heap s₁.heap.objs.size h₁ (fun y => if y = PySem.Str.ofString "script" then some (.ref lS) else none) := F0
  have dA' : oA.data = .cell none := dA
  have dB' : oB.data = .cell none := dB
  clear F0 dA dB
  generalize s₁.heap.objs.size = L at F1 N0 ⊢
  dsimp only
  (try k_fold)
  k_with_none
  k_with "k_all" => (first | assumption | exact off1_mem (by assumption))
  k_with "k_mem" => (first | exact (by assumption) | exact List.mem_cons_of_mem _ ((by assumption)) | exact List.mem_cons_of_mem _ (List.mem_cons_of_mem _ ((by assumption))) | exact List.mem_cons_of_mem _ (List.mem_cons_of_mem _ (List.mem_cons_of_mem _ ((by assumption)))) | exact List.mem_cons_of_mem _ (List.mem_cons_of_mem _ (List.mem_cons_of_mem _ (List.mem_cons_of_mem _ ((by assumption))))) | exact List.mem_cons_of_mem _ (List.mem_cons_of_mem _ (List.mem_cons_of_mem _ (List.mem_cons_of_mem _ (List.mem_cons_of_mem _ ((by assumption)))))) | exact List.mem_cons_of_mem _ (List.mem_cons_of_mem _ (List.mem_cons_of_mem _ (List.mem_cons_of_mem _ (List.mem_cons_of_mem _ (List.mem_cons_of_mem _ ((by assumption))))))) | exact List.mem_cons_of_mem _ (List.mem_cons_of_mem _ (List.mem_cons_of_mem _ (List.mem_cons_of_mem _ (List.mem_cons_of_mem _ (List.mem_cons_of_mem _ (List.mem_cons_of_mem _ ((by assumption)))))))) | exact List.mem_cons_of_mem _ (List.mem_cons_of_mem _ (List.mem_cons_of_mem _ (List.mem_cons_of_mem _ (List.mem_cons_of_mem _ (List.mem_cons_of_mem _ (List.mem_cons_of_mem _ (List.mem_cons_of_mem _ ((by assumption))))))))))
  k_with "k_ne" => (first | with_reducible assumption | (with_reducible exact Ne.symm (by assumption)) | exact Nat.ne_of_lt (by assumption) | exact Nat.ne_of_gt (by assumption) | (refine neN ?_; (try dsimp only); simp; done))
  k_with "call builtin:sum" => (k_here; (with_reducible show wpAny _ _ (call (Value.builtin "sum") [Value.ref _]) _ _ _); k_dflt (refine' sumL ?hh ?F ?N ?l ?i ?_; (case hh => with_unfolding_all rfl); (case F => k_asm); (case N => k_asm); (case l => exact News.isList (by k_asm) (List.Mem.head _)); (case i => assumption)); intro h9 tk9 t9 F9 N9; (try dsimp only); (try k_fold))
  k_with "subscriptTail Name Slice ref ref" => (k_here; (with_reducible show wpAny _ _ (subscriptTail _ (PySem.Expr.Slice _ none (some _) _) (Value.ref _) (Value.ref _)) _ _ _); k_dflt (refine' step_slice ?F ?N ?l ?i ?z ?_ ?s ?t; (case F => k_asm); (case N => k_asm); (case l => exact stays_list (Fr.keep (by k_asm)) hL); (case i => exact hI); (case z => exact Nat.le_trans hz (by decide)); (case s => with_unfolding_all rfl); (case t => kmk_pure)); intro D9 ws9 ms9 h9 i9 l1 F9 N9; (try k_lt l1); (try dsimp only); (try k_fold))
  k_with "call ref" => (k_here; (with_reducible show wpAny _ _ (call (Value.ref 190) _) _ _ _); k_dflt (refine' drawn_any ?B ?F ?X ?N ?T ?hk ?hd ?hu ?_; (case F => k_asm); (case N => k_asm); (case B => k_asm); (case X => k_asm); (case T => k_asm); (case hk => first | exact rfl | assumption); (case hd => first | decide | ktr_room); (case hu => first | decide | ktr_units)); intro c9 cl9 ch9 a9 lc9 u0 u1 u2 u3 u4 n9 h9 tk9 l1 l2 F9 N9; (try k_lt l1); (try k_lt2 l2); (try dsimp only); (try k_fold))
  k_with "CompSrc" => (k_here; k_dflt (refine LCg.CompSrc.ledger (by rfl) (by k_asm) (by k_asm) (by k_mem) (by first | size_fits | exact Nat.le_of_ble_eq_true rfl) ?_); intro g5; lcg_lit)
  k_with "LELEN" => (first | with_reducible exact l_pcts | with_reducible exact dC0_len _ | with_reducible exact dC1_len _ | with_reducible exact dC2_len _ | with_reducible exact dbl_len2 (dC0_len _) | with_reducible exact qd_len2 (formT_len _) | (with_reducible apply len_add <;> walk_at "LELEN"))
  k_with "binaryOp Add str str" => (k_here; (with_reducible show wpAny _ _ (binaryOp Operator.Add (Value.str _ _) (Value.str _ _)) _ _ _); k_dflt (refine' addS ?xx ?xy ?xz ?_; (case xx => walk_at "LELEN"); (case xy => walk_at "LELEN"); (case xz => exact rfl)); intro t9 k9; (try dsimp only); (try k_fold))
  k_with "call builtin:str.replace" => (k_here; k_dflt (refine' repl_pct ?xa ?xb ?xc ?xd ?_; (case xa => exact Nat.succ_ne_zero _); (case xb => exact Nat.succ_ne_zero _); (case xc => exact Nat.ne_of_lt (Nat.lt_succ_self _)); (case xd => exact Nat.le_trans (dC0_len _) (by decide))); intro t9 k9; (try dsimp only); (try k_fold))
  k_with "IT4" => (k_here; (with_reducible show wpAny _ _ (subscriptTail _ _ (Value.ref _) (Value.int _ _)) _ _ _); k_dflt (first | (refine' tup_at ?xN ?xm ?xa ?xz ?xe ?_; (case xN => k_asm); (case xm => k_mem); (case xa => exact rfl); (case xz => exact rfl); (case xe => exact rfl)) | (refine' lst_at ?xN ?xm ?xa ?xz ?xe ?_; (case xN => k_asm); (case xm => k_mem); (case xa => exact rfl); (case xz => exact rfl); (case xe => exact rfl))); (try dsimp only); (try k_fold))
  k_with "subscriptTail Name Constant ref int" => walk_at "IT4"
  k_with "subscriptTail Subscript Name Constant Constant ref int" => walk_at "IT4"
  k_with "CompEnd ref" => (k_here; k_dflt (refine' comp_two ?xF ?xN ?xo l1.1 l1.2.1 l1.2.2.1 l2 ?xS ?_; (case xF => k_asm); (case xN => k_asm); (case xo => ((try simp only [LCg.Off3, and_true]); assumption)); (case xS => first | exact .inr ⟨_, .tail _ (.tail _ (.head _)), rfl, _, rfl⟩ | exact .inr ⟨_, .tail _ (.tail _ (.tail _ (.tail _ (.head _)))), rfl, _, rfl⟩)))
  k_with "TOFORMS" => (repeat' (first | (k_unfold; (try dsimp only)) | ((fail_if_success (with_reducible show wpAny _ _ (execs (Stmt.Assign [Expr.Name (PySem.Str.ofString "forms") _] _ _ :: _) _) _ _ _)); walk1) | ((fail_if_success (with_reducible show wpAny _ _ (execs (Stmt.Assign [Expr.Name (PySem.Str.ofString "forms") _] _ _ :: _) _) _ _ _)); dsimp only; walk1)))
  walk_at "TOFORMS"
  rename Fr _ _ _ _ => kF
  rename News _ _ _ _ => kN
  rename_i o19
  rename _ < _ ∧ _ < _ ∧ _ < _ ∧ _ < _ ∧ _ < _ ∧ _ < _ ∧ _ < _ ∧ _ < _ => q8
  rename _ < _ ∧ _ < _ ∧ _ < _ ∧ _ < _ ∧ _ < _ ∧ _ < _ ∧ _ < _ ∧ _ < _ ∧ _ < _ ∧ _ < _ => q10
  refine law_led kN q8.2.2.2.2.2.2.1 (by assumption) q10.2.2.2.2.2.2.2.2.1 (by assumption) o19.2.2.2.2.2.2.2.1 o19.2.2.2.2.2.2.2.2 fun led vD cs kN2 hD hd ne2 ne1 => ?_
  clear kN
  rename_i x1 x2 x3 x4 x5 x6 x7 x8 x9 x10 x11 x12 x13 x14 x15 x16 x17 x18 x19 x20 x21 x22 x23 x24 x25 x26 x27 x28 x29 x30 x31 x32 x33 x34 x35 x36 x37 x38 x39 x40 x41 x42 x43 x44 x45 x46 x47 x48 x49 x50 x51 x52 x53 x54 x55 x56 x57 x58 x59 x60 x61 x62 x63 x64 x65 x66 x67 x68 x69 x70 x71 x72 x73 x74 x75 x76 x77
  clear o pm doc a1 o9 a3 as1 as2 vs as3 hL hI h₁ tk₁ hz x1 x2 x3 x4 x5 x6 x7 x8 x9 x10 x11 D9 ws9 ms9 x12 i9 l1 x13 x14 t9 x15 x16 x18 x19 x20 x21 x22 tk g5 x23 x24 x25 x26 x27 x28 x29 x30 x31 x32 x33 x34 x35 x36 x37 x38 x39 x40 x41 x42 x43 x44 x45 x46 x47 x48 x49 x50 x51 x52 x53 x54 x55 x56 q8 x57 x58 x59 x60 x61 x62 x63 x64 x65 x66 x67 x68 x69 x70 x71 x72 x73 x74 qk ek c9 cl9 ch9 a9 lc9 u0 u1 u2 u3 u4 n9 h9 tk9 F9 N9 q10 l2 o19
  k_with "CompSrc" => (k_here; k_dflt ((refine' LCg.CompSrc.ledger ?c1 ?c2 ?c3 ?c4 ?c5 ?_; (case c1 => rfl); (case c2 => k_asm); (case c3 => k_asm); (case c4 => k_mem); (case c5 => first | size_fits | exact Nat.le_of_ble_eq_true rfl)); intro g5; refine' rest_strsL (fun i => formT (cs i)) 2 (fun i5 v5 I5 oI5 C5 oC5 D5 m5 ys5 h5 tk5 E5 hi5 hv5 hC5 hx5 F5 N5 off5 ne5 => ?_) ?_; (try dsimp only)))
  k_with "TOCOMP" => (repeat' (first | (k_unfold; (try dsimp only)) | ((fail_if_success (with_reducible show wpAny _ _ _ (LCg.CompEnd _ _ _ _ _ _ _ _ _ _ _ _) _ _)); (fail_if_success (with_reducible show StrFin _ _ _)); walk1) | ((fail_if_success (with_reducible show wpAny _ _ _ (LCg.CompEnd _ _ _ _ _ _ _ _ _ _ _ _) _ _)); (fail_if_success (with_reducible show StrFin _ _ _)); dsimp only; walk1)))
  walk_at "TOCOMP"
  · have ev := arr2 hi5 hv5
    subst ev
    obtain ⟨a6, lc6, u0, u1, u2, u3, u4, n6, e6, m1, m2⟩ := hd i5 hi5
    rw [e6] at hx5
    clear hv5
    k_with "TOEND" => (repeat' (first | (k_unfold; (try dsimp only)) | walk1 | (dsimp only; walk1)))
    k_with "CompEnd" => (k_here; k_dflt (refine' comp_tailS ?xF ?xN off5 ?xS ⟨rfl, _, rfl⟩; (case xF => k_asm); (case xN => k_asm); (case xS => exact .inr ⟨_, by k_mem, rfl, _, rfl⟩)))
    walk_at "TOEND"
  · unfold StrFin
    intro ys hys
    have hfl : Floor 0 := True.intro
    k_with "exec For Name Call cons nil" => (k_here; k_dflt (refine for_range (by assumption) (by k_asm) (Nat.zero_le _) rfl ?_))
    k_with "ForSrc" => (k_dflt (refine' forSrc_range 2 ?F ?N ?hr ?sm ?sz ?_; (case F => k_asm); (case N => k_asm); (case hr => assumption); (case sm => decide); (case sz => rfl)))
    k_with "TOREST" => (repeat' ((fail_if_success (with_reducible show ForRest _ _ _ _ _ _ _ _ _ _ _ _ _ _ _ _ _ _)); (first | (k_unfold; (try dsimp only)) | walk1 | (dsimp only; walk1))))
    walk_at "TOREST"
    rename _ < _ ∧ _ < _ ∧ _ < _ ∧ AllLt _ _ => q11
    rename _ ≠ _ ∧ _ ≠ _ ∧ LCg.Off1 _ _ => q12
    rename_i x1 x2 x3 x4 x5 x6 x7 x8 x9 x10 x11 x12 x13 x14 x15 x16 x17
    clear x76 x77 g5 x2 x3 x5 x7 x8 x11 x12 x13 x14 x15 x16 x17
    obtain ⟨q1, q2, q3, q4⟩ := q11
    obtain ⟨q5, q6, q7⟩ := q12
    have q8 := kst_ltOf q4
    have q9 := off1_mem q7
    refine' forRest_ofM (PgJ _ cs _ _) 2 ?turn1 ?done1 2 0 _ _ rfl ⟨[], 0, fun _ _ => rfl, rfl, .nil⟩
    case turn1 =>
      rintro i6 m6 - hi6 ⟨vs6, n6, hO6, rfl, hv6⟩ t6 I6 oI6 h6 tk6 v6 ev6 - hc6 F6 N6 off6
      obtain ⟨u6, e6⟩ := only_eq hO6
      subst e6
      have ev7 : v6 = (i6 : Int) := by omega
      subst ev7
      clear ev6
      have hvl6 := strs_len hv6
      rw [List.length_map, List.length_range] at hvl6
      have w1 : (1 : Int) - (i6 : Int) = ((1 - i6 : Nat) : Int) := by omega
      have w2 : 1 - i6 < 2 := by omega
      have w3 : vs6.toArray.size ≤ 1000 := by rw [List.size_toArray]; omega
      have of9 := offN_of off6
      simp only [OffN] at of9
      k_with "IT5" => (k_here; (with_reducible show wpAny _ _ (subscriptTail _ _ (Value.ref _) (Value.int (Nat.cast _) _)) _ _ _); k_dflt (first | (refine' item_drawn i6 ?xN hD ?xs hd hi6 rfl ?_; (case xN => k_asm); (case xs => (intro p hp; k_mem)); intro a7 lc7 u70 u71 u72 u73 u74 n7 m71 m72) | (refine' item_form 2 i6 hys ?xN ?xm hi6 (by decide) rfl ?_; (case xN => k_asm); (case xm => k_mem); intro t7)); (try dsimp only); (try k_fold))
      k_with "IT6" => (k_here; (with_reducible show wpAny _ _ (subscriptTail _ _ (Value.ref _) (Value.int (_ - _) _)) _ _ _); k_dflt (refine' item_form 2 (1 - i6) hys ?xN ?xm w2 (by decide) w1 ?_; (case xN => k_asm); (case xm => k_mem); intro t7); (try dsimp only); (try k_fold))
      k_with "subscriptTail Name Name ref int" => walk_at "IT5"
      k_with "subscriptTail Name BinOp ref int" => walk_at "IT6"
      k_with "subscriptTail Name BinOp Constant Sub Name ref int" => walk_at "IT6"
      k_with "call ref" => (k_here; (with_reducible show wpAny _ _ (call (Value.ref 185) _) _ _ _); k_dflt (refine' quoted_c ?xa ?B ?F ?X ?N ?T ?hk ?hd ?hu ?_; (case F => k_asm); (case N => k_asm); (case xa => exact Nat.le_trans (formT_len _) (by decide)); (case B => k_asm); (case X => k_asm); (case T => k_asm); (case hk => first | exact rfl | assumption); (case hd => first | decide | ktr_room); (case hu => first | decide | ktr_units)); intro t9 h9 tk9 F9 N9; (try dsimp only); (try k_fold))
      k_with "call builtin:list.append" => ((try dsimp only [List.cons_append, List.nil_append]); k_here; (with_reducible show wpAny _ _ (call (Value.builtin _) [Value.ref _, _]) _ _ _); k_dflt (refine' append_K ?k1 ?k2 ?k3 ?_ ?z; (case k1 => k_asm); (case k2 => k_asm); (case k3 => k_upd); (case z => (rw [PySem.sizeLine_eq]; exact Nat.le_trans w3 (by decide)))); intro h' F' N'; (try dsimp only))
      k_with "ForPost" => (dsimp only [ForPost])
      k_with "TOEND" => (repeat' ((fail_if_success (with_reducible show ForEnd _ _ _ _ _ _ _)); (first | (k_unfold; (try dsimp only)) | walk1 | (dsimp only; walk1))))
      walk_at "TOEND"
      (try simp only [List.push_toArray] at *)
      refine' for_end0 off6 ?F ?N ?xe (pgj_mk ?xo hv6)
      case F => k_asm
      case N => k_asm
      case xe => rfl
      case xo =>
        intro z hz
        simp only [List.contains_cons, List.contains_nil, Bool.or_false, Bool.or_eq_false_iff, beq_eq_false_iff_ne, ne_eq] at hz
        have hz2 : [PySem.Str.ofString "k", PySem.Str.ofString "cuts"].contains z = false := by simp only [List.contains_cons, List.contains_nil, Bool.or_false, Bool.or_eq_false_iff, beq_eq_false_iff_ne, ne_eq]; exact hz
        simp only [hz.1, hz.2, hz2, if_false, Bool.false_eq_true]
    case done1 =>
      rintro m6 - h6 tk6 ⟨vp, np, hO6, rfl, hvp⟩ - F6 N6
      obtain ⟨u6, e6⟩ := only_eq hO6
      subst e6
      (try dsimp only)
      (try k_fold)
      k_with "TOREST" => (repeat' ((fail_if_success (with_reducible show ForRest _ _ _ _ _ _ _ _ _ _ _ _ _ _ _ _ _ _)); (first | (k_unfold; (try dsimp only)) | walk1 | (dsimp only; walk1))))
      walk_at "TOREST"
      rename_i y1 y2 y3 y4 y5 y6 y7 y8 y9 y10 y11
      clear x6 tk x9 x10 y1 hO6 y2 y5 y6 y7 y8 y9 y10 y11
      refine' forRest_ofM (LwJ [PySem.Str.ofString "k", PySem.Str.ofString "cuts", PySem.Str.ofString "kind", PySem.Str.ofString "own", PySem.Str.ofString "count", PySem.Str.ofString "due", PySem.Str.ofString "kinds", PySem.Str.ofString "names", PySem.Str.ofString "above", PySem.Str.ofString "told"] _ _ _ L led) 2 ?turn2 ?done2 2 0 _ _ rfl ⟨oA, oB, _, _, only_more ?only2, rfl, dA', dB'⟩
      case only2 =>
        intro z hz
        simp only [List.contains_cons, Bool.or_eq_false_iff] at hz ⊢
        exact ⟨hz.1, hz.2.1, rfl⟩
      case done2 =>
        clear dA' dB'
        rintro m8 - h8 tk8 ⟨oA, oB, vA, vB, hO8, rfl, dA, dB⟩ - F8 N8
        obtain ⟨u8, e8⟩ := only_eq hO8
        subst e8
        (try dsimp only)
        k_with "TOEND" => (repeat' (first | (k_unfold; (try dsimp only)) | walk1 | (dsimp only; walk1)))
        walk_at "TOEND"
        exact goodW_bool F8 hg (raisesW_false (by wrow_none_raised)) (by wrow_post)
      case turn2 =>
        clear dA' dB' oA oB
        rintro i7 m7 - hi7 ⟨oA, oB, vA, vB, hO7, rfl, dA, dB⟩ t7 I7 oI7 h7 tk7 v7 ev7 - hc7 F7 N7 off7
        obtain ⟨u7, e7⟩ := only_eq hO7
        subst e7
        have ev8 : v7 = (i7 : Int) := by omega
        subst ev8
        clear ev7 hO7
        have w1 : (1 : Int) - (i7 : Int) = ((1 - i7 : Nat) : Int) := by omega
        have w2 : 1 - i7 < 2 := by omega
        have w5 : 1 - (1 - i7) = i7 := by omega
        have ef6 : (fun k => pageT (cs k) (cs (1 - k))) (1 - i7) = pageT (cs (1 - i7)) (cs i7) := by show pageT _ (cs (1 - (1 - i7))) = _; rw [w5]
        have of9 := offN_of off7
        simp only [OffN] at of9
        k_with "IT5" => (k_here; (with_reducible show wpAny _ _ (subscriptTail _ _ (Value.ref _) (Value.int (Nat.cast _) _)) _ _ _); k_dflt (first | (refine' item_drawn i7 ?xN hD ?xs hd hi7 rfl ?_; (case xN => k_asm); (case xs => (intro p hp; k_mem)); intro a7 lc7 u70 u71 u72 u73 u74 n7 m71 m72) | (refine' item_formE 2 i7 (pageT (cs i7) (cs (1 - i7))) rfl hvp ?xN ?xm hi7 (by decide) rfl ?_; (case xN => k_asm); (case xm => k_mem); intro t7)); (try dsimp only); (try k_fold))
        k_with "IT6" => (k_here; (with_reducible show wpAny _ _ (subscriptTail _ _ (Value.ref _) (Value.int (_ - _) _)) _ _ _); k_dflt (refine' item_formE 2 (1 - i7) _ ef6 hvp ?xN ?xm w2 (by decide) w1 ?_; (case xN => k_asm); (case xm => k_mem); intro t7); (try dsimp only); (try k_fold))
        k_with "subscriptTail Subscript Name Name Constant ref int" => walk_at "IT4"
        k_with "call builtin:len" => (k_here; (with_reducible show wpAny _ _ (call (Value.builtin "len") [Value.str _ _]) _ _ _); k_dflt (refine' P.len_str ?xf ?_; (case xf => first | with_reducible exact own_fit _ | with_reducible exact c0_fit _)))
        k_with "eval IfExp" => (k_here; (fail_if_success (with_reducible show wpAny _ _ _ (IntJoin _ _) _ _)); k_dflt (refine join_int (cntOf (sg (pageT (cs (1 - i7)) (cs i7))) (sg (dOwn (cs i7)))) ?_ ?_); rotate_left 1; intro t9 k9; rotate_right 1)
        k_with "IntJoin" => (k_dflt (first | exact intJoin_mk (count_own (by omega)) | exact intJoin_mk0 (count_own (by omega)) | exact intJoin_mk (count_none (by omega)) | exact intJoin_mk0 (count_none (by omega))))
        k_with "LELEN" => (first | with_reducible exact pageT_len _ _ | with_reducible exact own_big _ | (with_reducible apply len_add <;> walk_at "LELEN"))
        k_with "eval ListComp" => (k_here; (with_reducible show wpAny _ _ (eval (Expr.ListComp (Expr.Name _ _) _ _ _) _) _ _ _); k_dflt (refine ListComp_S (_F₀ := by k_asm) (by with_unfolding_all rfl) (by decide) (by rfl) (by decide) (by rfl) ?_))
        k_with "CompSrcS" => (k_here; k_dflt ((refine' CompSrcS.mk ?c1 ?c2 ?c3 ?c5 ?_; (case c1 => rfl); (case c2 => k_asm); (case c3 => k_asm); (case c5 => exact own_sz _)); intro g5; refine' rest_strsL (fun _ => pageT (cs (1 - i7)) (cs i7)) (dOwn (cs i7)).cps.size (fun i5 v5 I5 oI5 C5 oC5 D5 m5 ys5 h5 tk5 E5 hi5 hv5 hC5 hx5 F5 N5 off5 ne5 => ?_) ?_; (try dsimp only)))
        k_with "CompEnd" => (k_here; k_dflt (refine' comp_tailS ?xF ?xN off5 True.intro ⟨rfl, _, rfl⟩; (case xF => k_asm); (case xN => k_asm)))
        k_with "StrFin" => (unfold StrFin; intro yj hyj)
        k_with "call builtin:str.join" => (k_here; k_dflt (refine' join_due ?xl hyj ?xn ?xo ?_; (case xl => exact News.isList (by k_asm) (List.Mem.head _)); (case xn => exact own_big _); (case xo => exact Nat.le_trans (pageT_len _ _) (by decide))); intro t9 k9; (try dsimp only); (try k_fold))
        k_with "subscriptTail List" => (k_here; (with_reducible show wpAny _ _ (subscriptTail (Expr.List _ _) _ (Value.ref _) (Value.int _ _)) _ _ _); k_dflt (refine' item_due (c := cs i7) (d := cs (1 - i7)) ?xN ?xm ?_; (case xN => k_asm); (case xm => k_mem)); intro t9; (try dsimp only); (try k_fold))
        k_with "LELEN" => (first | with_reducible exact pageT_len _ _ | with_reducible exact own_big _ | with_reducible exact reply_len _ _ | with_reducible exact reply_len1 _ _ | exact lit_len (n := 5) (by decide +kernel) | (with_reducible apply len_add <;> walk_at "LELEN"))
        k_with "call ref" => (k_here; (with_reducible show wpAny _ _ (call (Value.ref 197) _) _ _ _); k_dflt (refine' read_page (c := cs i7) (d := cs (1 - i7)) ?B ?F ?X ?N ?T ?hk ?hd ?hu ?_; (case B => k_asm); (case F => k_asm); (case N => k_asm); (case X => k_asm); (case T => k_asm); (case hk => first | exact rfl | assumption); (case hd => first | decide | ktr_room); (case hu => first | decide | ktr_units)); intro a9 lk9 ln9 la9 vk9 vn9 va9 ck9 cn9 ca9 h9 tk9 hki9 hns9 htk9 hab9 F9 N9; have z1 := ne_cell (b := a9) (a := L + 1 + 1) N9 (List.Mem.head _) (List.Mem.tail _ (List.Mem.tail _ (List.Mem.tail _ (List.Mem.tail _ (List.Mem.tail _ (List.Mem.tail _ (List.Mem.tail _ (List.Mem.tail _ (List.Mem.tail _ (List.Mem.tail _ (List.Mem.head _))))))))))) dA rfl; have z2 := ne_cell (b := lk9) (a := L + 1 + 1) N9 (List.Mem.tail _ (List.Mem.head _)) (List.Mem.tail _ (List.Mem.tail _ (List.Mem.tail _ (List.Mem.tail _ (List.Mem.tail _ (List.Mem.tail _ (List.Mem.tail _ (List.Mem.tail _ (List.Mem.tail _ (List.Mem.tail _ (List.Mem.head _))))))))))) dA rfl; have z3 := ne_cell (b := ln9) (a := L + 1 + 1) N9 (List.Mem.tail _ (List.Mem.tail _ (List.Mem.head _))) (List.Mem.tail _ (List.Mem.tail _ (List.Mem.tail _ (List.Mem.tail _ (List.Mem.tail _ (List.Mem.tail _ (List.Mem.tail _ (List.Mem.tail _ (List.Mem.tail _ (List.Mem.tail _ (List.Mem.head _))))))))))) dA rfl; have z4 := ne_cell (b := la9) (a := L + 1 + 1) N9 (List.Mem.tail _ (List.Mem.tail _ (List.Mem.tail _ (List.Mem.head _)))) (List.Mem.tail _ (List.Mem.tail _ (List.Mem.tail _ (List.Mem.tail _ (List.Mem.tail _ (List.Mem.tail _ (List.Mem.tail _ (List.Mem.tail _ (List.Mem.tail _ (List.Mem.tail _ (List.Mem.head _))))))))))) dA rfl; (try dsimp only); (try k_fold))
        k_with "call ref" => (k_here; (with_reducible show wpAny _ _ (call (Value.ref 209) _) _ _ _); k_dflt (refine' value_go hki9 hns9 hab9 htk9 ?x1 ?x2 ?x3 ?B ?F ?X ?N ?T ?hk ?hd ?hu ⟨?tok, ?_⟩; (case N => k_asm); (case B => k_asm); (case F => k_asm); (case X => k_asm); (case T => k_asm); (case hk => first | exact rfl | assumption); (case hd => first | decide | ktr_room); (case hu => first | decide | ktr_units); (case x1 => k_mem); (case x2 => k_mem); (case x3 => k_mem); (case tok => (dsimp only; omega))); intro t9 h9 tk9 F9 N9; (try dsimp only); (try k_fold))
        k_with "call ref" => (k_here; (with_reducible show wpAny _ _ (call (Value.ref 216) _) _ _ _); k_dflt (refine' sorted_c ?x1 hki9 (pKs_ok _) (pKs_len _) ?B ?F ?X ?N ?T ?hk ?hd ?hu ?_; (case N => k_asm); (case B => k_asm); (case F => k_asm); (case X => k_asm); (case T => k_asm); (case hk => first | exact rfl | assumption); (case hd => first | decide | ktr_room); (case hu => first | decide | ktr_units); (case x1 => k_mem)); intro t9 h9 tk9 F9 N9; (try dsimp only); (try k_fold))
        k_with "execs cons" => (k_here; (with_reducible show wpAny _ _ (execs (Stmt.Assign [Expr.Name (PySem.Str.ofString "told") _] _ _ :: _) _) _ _ _); with_reducible refine wpAny_execs_cons ?_)
        k_with "compareOp" => (k_here; (with_reducible show wpAny _ _ (compareOp CmpOp.NotEq (toldV _ _ _) (toldV _ _ _)) _ _ _); k_dflt (refine cmp_told ?_))
        k_with "compareOp" => (k_here; (with_reducible show wpAny _ _ (compareOp CmpOp.IsNot (toldV _ _ _) (toldV _ _ _)) _ _ _); k_dflt (refine is_told (by first | assumption | omega) ?_))
        k_with "isTrue BoolOp And" => (k_here; (fail_if_success (with_reducible show wpAny _ _ _ (BoolJoin _ _) _ _)); k_dflt (refine join_test false ?_ ?_); rotate_left 1; intro k9; (try dsimp only); rotate_right 1)
        k_with "BoolJoin" => (k_dflt (exact ⟨rfl, _, rfl⟩))
        k_with "call ref" => (k_here; (with_reducible show wpAny _ _ (call (Value.ref 223) _) _ _ _); k_dflt (refine' refused_c ?a1 ?a2 ?B ?XB ?TB ?F ?X ?N ?T ?hk ?hd ?hu ?_; (case B => k_asm); (case F => k_asm); (case N => k_asm); (case X => k_asm); (case T => k_asm); (case hk => first | exact rfl | assumption); (case hd => first | decide | ktr_room); (case hu => first | decide | ktr_units); (case XB => exact KX); (case TB => exact T); (case a1 => first | with_reducible exact code_len lc1 (reply_len _ _) | with_reducible exact code_len lc2 (reply_len _ _) | with_reducible exact code_len lc3 (reply_len _ _) | with_reducible exact code_len lc4 (reply_len _ _)); (case a2 => first | with_reducible exact pre1 _ | with_reducible exact pre2 _ | with_reducible exact pre3 _ | with_reducible exact pre4 _)); intro t9 h9 tk9 F9 N9; (try dsimp only); (try k_fold))
        k_with "call ref" => (k_here; (with_reducible show wpAny _ _ (call (Value.ref 53) _) _ _ _); k_dflt (refine' parse_no ?a1 ?a2 ?a3 ?B ?F ?X ?N ?T ?hk ?hd ?hu ?_; (case B => k_asm); (case F => k_asm); (case N => k_asm); (case X => k_asm); (case T => k_asm); (case hk => first | exact rfl | assumption); (case hd => first | decide | ktr_room); (case hu => first | decide | ktr_units); (case a1 => first | with_reducible exact code_len lc5 (reply_len _ _) | with_reducible exact code_len lc6 (reply_len _ _) | with_reducible exact code_len lc6 (reply_len1 _ _)); (case a2 => first | with_reducible exact pre_eq sg_c5 | with_reducible exact pre_eq sg_c6); (case a3 => first | with_reducible exact mid5 _ | with_reducible exact mid6 _)); intro t9 h9 tk9 F9 N9; (try dsimp only); (try k_fold))
        k_with "subscriptTail Subscript Subscript Constant Constant ref int" => walk_at "IT4"
        k_with "subscriptTail Subscript Subscript Constant Constant ref int" => walk_at "IT4"
        k_with "IT8" => (k_here; (with_reducible show wpAny _ _ (subscriptTail _ (Expr.Slice (some _) none none _) (Value.str _ _) (Value.ref _)) _ _ _); k_dflt (refine' slice_strN_sn (hsz := ?xz) (s := ⟨_, s₁.gens, s₁.drawn, _, s₁.os⟩) ?xF ?xN ?_; (case xF => k_asm); (case xN => k_asm); (case xz => first | with_reducible exact page_sz _ _ | with_reducible exact reply_sz _ _)); intro h9 t9 k9 F9 N9; (try dsimp only); (try k_fold))
        k_with "subscriptTail Subscript Name Name Slice str ref" => walk_at "IT8"
        k_with "subscriptTail Name Slice str ref" => walk_at "IT8"
        k_with "CompEnd bool" => (k_here; k_dflt (refine' comp_tailS ?xF ?xN ?xo ?xS ?_; (case xF => k_asm); (case xN => k_asm); (case xo => assumption); (case xS => exact .inr ⟨_, List.Mem.head _, rfl, _, rfl⟩)))
        k_with "ForPost" => (dsimp only [ForPost])
        k_with "TOREPLY" => (repeat' ((fail_if_success (with_reducible show wpAny _ _ (execs (Stmt.Assign [Expr.Name (PySem.Str.ofString "reply") _] _ _ :: _) _) _ _ _)); (first | (k_unfold; (try dsimp only)) | walk1 | (dsimp only; walk1))))
        walk_at "TOREPLY"
        dsimp only
        rename News _ _ _ _ => kN
        replace kN := news_off (news_off (news_off (news_off (news_off (news_off (news_off kN))))))
        rename _ = Data.cell (some _) => dO
        rename_i y1 y2 y3 y4 y5 y6 y7 y8 y9 y10 y11 y12 y13 y14 y15 y16 y17 y18 y19 y20 y21 y22 y23 y24 y25 y26 y27 y28 y29 y30 y31 y32 y33 y34 y35 y36 y37 y38 y39 y40 y41 y42 y43 y44 y45 y46 y47 y48 y49 y50 y51 y52 y53 y54 y55 y56 y57 y58 y59 y60 y61 y62 y63 y64 y65 y66 y67 y68 y69 y70 y71 y72 y73 y74 y75 y76 y77 y78
        clear h6 tk6 u6 vB dB h7 tk7 y4 y5 y6 y7 y9 y10 y11 y12 y13 y14 y15 y16 y17 y18 y19 a7 lc7 u70 u72 u73 u74 n7 m71 m72 y20 y21 y22 y23 y25 y26 y27 y28 y29 y30 y31 y32 y33 y35 y37 y38 y39 y40 y41 y42 y43 y44 y45 y46 g5 yj hyj y47 y48 y49 y50 y51 y52 y53 y54 y55 y56 y57 y59 y60 y61 y62 t7 y63 y64 a9 vk9 vn9 va9 ck9 cn9 ca9 y65 y66 hki9 hns9 htk9 hab9 z1 z2 z3 z4 y67 y68 y69 y70 y72 y73 y74 y75 y76 y77 y78 tk k9 t9 qk ek
        k_with "compareOp In bool ref" => (k_here; k_dflt (refine' in_bools ?xN ?xm ?xu ?_; (case xN => k_asm); (case xm => exact List.Mem.head _); (case xu => first | decide | ktr_units)))
        k_with "compareOp NotEq ref ref" => (k_here; k_dflt (refine' ne_three ?xN ?xm ?xl ?xu ?_; (case xN => k_asm); (case xm => exact List.Mem.tail _ (List.Mem.head _)); (case xl => exact List.Mem.head _); (case xu => first | decide | ktr_units)))
        k_with "TOEND" => (repeat' ((fail_if_success (with_reducible show ForEnd _ _ _ _ _ _ _)); (first | (k_unfold; (try dsimp only)) | walk1 | (dsimp only; walk1))))
        walk_at "TOEND"
        rename News _ _ _ _ => kN
        rename Fr _ _ _ _ => kF
        refine' for_end0 off7 kF (news_off (news_off (news_off (news_off kN)))) rfl ⟨_, _, _, _, ?xo, rfl, by assumption, dO⟩
        case xo =>
          intro z hz
          have hz0 := hz
          simp only [List.contains_cons, List.contains_nil, Bool.or_false, Bool.or_eq_false_iff, beq_eq_false_iff_ne, ne_eq] at hz
          simp only [hz, hz0, if_false, Bool.false_eq_true])
end
end Mine
theorem PySem.Challenge.cw_wo0069_01_holds : PySem.Challenge.rw_wo0069_01.Holds := by
  exact Mine.law_c
