import PyProof.Rows.All
import Wide.All
import OpenK.AllK
import Wide.FinOn
import PySem.Challenge.RW_nb0041_01
open PySem PySem.W PySem.Spec PySem.Calls PyProof.Rows
set_option Elab.async false
set_option maxRecDepth 100000
set_option maxHeartbeats 8000000
namespace Mine41
open_top hd for PySem.Challenge.rw_nb0041_01
/-- a text is not greater than another -/
def leS (a b : Str) : Bool := !ltCps b.cps.toList a.cps.toList
def ltS (a b : Str) : Bool := ltCps a.cps.toList b.cps.toList
def srt (ws : List Str) : List Str := ws.mergeSort leS

theorem ltS_iff (a b : Str) : ltS a b = true ↔ a.cps.toList < b.cps.toList := by
  unfold ltS; rw [ltCps_eq]; simp
theorem leS_iff (a b : Str) : leS a b = true ↔ a.cps.toList ≤ b.cps.toList := by
  unfold leS; rw [ltCps_eq]; simp
theorem leS_trans (a b c : Str) (h1 : leS a b = true) (h2 : leS b c = true) : leS a c = true := by
  rw [leS_iff] at *; exact List.le_trans h1 h2
theorem leS_total (a b : Str) : (leS a b || leS b a) = true := by
  rw [Bool.or_eq_true, leS_iff, leS_iff]; exact List.le_total _ _
theorem leS_antisymm (a b : Str) (h1 : leS a b = true) (h2 : leS b a = true) : a = b := by
  rw [leS_iff] at h1 h2
  have := List.le_antisymm h1 h2
  cases a; cases b; simp only at this; rw [Array.toList_inj] at this; rw [this]
theorem leS_refl (a : Str) : leS a a = true := by rw [leS_iff]; exact List.le_refl _
theorem srt_perm (ws : List Str) : (srt ws).Perm ws := List.mergeSort_perm ws leS
theorem srt_sorted (ws : List Str) : (srt ws).Pairwise (fun a b => leS a b = true) := List.pairwise_mergeSort leS_trans leS_total ws
theorem srt_len (ws : List Str) : (srt ws).length = ws.length := (srt_perm ws).length_eq
theorem pairwise_of_sortedS : ∀ (l : List Str), sortedS l = true → l.Pairwise (fun a b => leS a b = true)
  | [], _ => .nil
  | [x], _ => by simp
  | x :: y :: r, h => by
    have h' : (!ltCps y.cps.toList x.cps.toList && risingS y r) = true := h
    rw [Bool.and_eq_true] at h'
    have ih := pairwise_of_sortedS (y :: r) h'.2
    refine .cons ?_ ih
    intro z hz
    have hxy : leS x y = true := h'.1
    rcases List.mem_cons.mp hz with rfl | hz
    · exact hxy
    · exact leS_trans _ _ _ hxy ((List.pairwise_cons.mp ih).1 z hz)
theorem sorted_unique : ∀ {a b : List Str}, a.Perm b → a.Pairwise (fun x y => leS x y = true) → b.Pairwise (fun x y => leS x y = true) → a = b
  | [], b, hp, _, _ => by simpa using hp.symm
  | x :: r, [], hp, _, _ => by simp at hp
  | x :: r, y :: t, hp, ha, hb => by
    have e : x = y := by
      have hx : x ∈ y :: t := hp.mem_iff.mp (by simp)
      have hy : y ∈ x :: r := hp.mem_iff.mpr (by simp)
      rcases List.mem_cons.mp hx with e | hx
      · exact e
      · rcases List.mem_cons.mp hy with e | hy
        · exact e.symm
        · exact leS_antisymm _ _ ((List.pairwise_cons.mp ha).1 _ hy) ((List.pairwise_cons.mp hb).1 _ hx)
    subst e
    rw [sorted_unique ((List.perm_cons x).mp hp) (List.pairwise_cons.mp ha).2 (List.pairwise_cons.mp hb).2]
theorem srt_unique {a ws : List Str} (hp : a.Perm ws) (hs : sortedS a = true) : a = srt ws :=
  sorted_unique (hp.trans (srt_perm ws).symm) (pairwise_of_sortedS _ hs) (srt_sorted ws)
theorem srt_of_pairwise {a ws : List Str} (hp : a.Perm ws) (hs : a.Pairwise (fun x y => leS x y = true)) : srt ws = a :=
  sorted_unique ((srt_perm ws).trans hp.symm) (srt_sorted ws) hs
section
open PySem.Builtin PySem.Builtin.Str
/-- the sign that parts -/
def tck : Str := ⟨#[39]⟩
theorem tick_is : Str.ofString "'" = tck := by decide +kernel
def Free (x : Str) : Prop := 39 ∉ x.cps.toList
theorem cut_inj : ∀ {a b a' b' : List Nat}, 39 ∉ a → 39 ∉ a' → a ++ 39 :: b = a' ++ 39 :: b' → a = a' ∧ b = b'
  | [], b, [], b', _, _, e => ⟨rfl, (List.cons.inj e).2⟩
  | [], b, c :: a', b', _, h', e => by
    rw [List.nil_append, List.cons_append] at e
    exact absurd (List.mem_cons.mpr (.inl (List.cons.inj e).1)) h'
  | c :: a, b, [], b', h, _, e => by
    rw [List.nil_append, List.cons_append] at e
    exact absurd (List.mem_cons.mpr (.inl (List.cons.inj e).1.symm)) h
  | c :: a, b, d :: a', b', h, h', e => by
    rw [List.cons_append, List.cons_append] at e
    obtain ⟨e1, e2⟩ := List.cons.inj e
    obtain ⟨r1, r2⟩ := cut_inj (fun q => h (.tail _ q)) (fun q => h' (.tail _ q)) e2
    exact ⟨by rw [e1, r1], r2⟩
theorem toList_join2 (x y : Str) (r : List Str) : (Str.join tck (x :: y :: r)).cps.toList = x.cps.toList ++ 39 :: (Str.join tck (y :: r)).cps.toList := by
  show ((x ++ tck ++ Str.join tck (y :: r)).cps).toList = _
  rw [Str.cps_append, Str.cps_append, Array.toList_append, Array.toList_append]
  simp [tck]
theorem str_inj {a b : Str} (h : a.cps.toList = b.cps.toList) : a = b := Str.ext' (Array.toList_inj.mp h)
theorem join_step {x x' y y' : Str} {r r' : List Str} (hx : Free x) (hx' : Free x') (e : Str.join tck (x :: y :: r) = Str.join tck (x' :: y' :: r')) : x = x' ∧ Str.join tck (y :: r) = Str.join tck (y' :: r') := by
  have e := congrArg (fun z : Str => z.cps.toList) e
  simp only [toList_join2] at e
  obtain ⟨a, b⟩ := cut_inj hx hx' e
  exact ⟨str_inj a, str_inj b⟩
theorem not_free_join2 (x y : Str) (r : List Str) : ¬ Free (Str.join tck (x :: y :: r)) := fun h => h (by rw [toList_join2]; simp)
theorem join_inj : ∀ {P W : List Str}, P ≠ [] → W ≠ [] → (∀ p ∈ P, Free p) → (∀ p ∈ W, Free p) → Str.join tck P = Str.join tck W → P = W
  | [], _, h, _, _, _, _ => absurd rfl h
  | _, [], _, h, _, _, _ => absurd rfl h
  | [x], [y], _, _, _, _, e => by rw [show x = y from e]
  | [x], y :: z :: r, _, _, hp, _, e => absurd (hp x (.head _)) (by rw [show x = _ from e]; exact not_free_join2 _ _ _)
  | y :: z :: r, [x], _, _, _, hw, e => absurd (hw x (.head _)) (by rw [show x = _ from e.symm]; exact not_free_join2 _ _ _)
  | x :: y :: r, x' :: y' :: r', _, _, hp, hw, e => by
    obtain ⟨a, b⟩ := join_step (hp x (.head _)) (hw x' (.head _)) e
    rw [a, join_inj (by simp) (by simp) (fun p h => hp p (.tail _ h)) (fun p h => hw p (.tail _ h)) b]
theorem split_join {W : List Str} (h0 : W ≠ []) (hw : ∀ p ∈ W, Free p) : Txt.split (Str.join tck W) tck = W := by
  refine join_inj ?_ h0 (StrLaws.split_free _ 39) hw (StrLaws.join_split _ _)
  unfold Txt.split
  split
  · simp
  · split
    · simp
    · rw [StrLaws.partsBetween_eq]
      obtain ⟨p, r, e⟩ := StrLaws.partsFrom_ne (Str.join tck W) tck.length 0 (occurrences (Str.join tck W) tck 0 (Str.join tck W).length ((Str.join tck W).length + 1))
      rw [e]; simp
/-- with a limit: the cuts are tight, and where fewer than the limit are found nothing is left -/
theorem tight_lim (s sub : Str) (hi limit lo : Nat) (hw : 1 ≤ sub.length) : ∀ (m cur : Nat) (st : Array Nat × Nat), StrLaws.ChainG s sub hi lo st.fst.toList st.snd → (st.fst.size < limit → ∀ k, st.snd ≤ k → k < cur → ¬ StrLaws.At s sub hi k) →
    StrLaws.ChainG s sub hi lo (forIn (List.range' cur m) st (StrLaws.occBody s sub hi limit)).run.fst.toList (forIn (List.range' cur m) st (StrLaws.occBody s sub hi limit)).run.snd ∧
    ((forIn (List.range' cur m) st (StrLaws.occBody s sub hi limit)).run.fst.size < limit → ∀ k, (forIn (List.range' cur m) st (StrLaws.occBody s sub hi limit)).run.snd ≤ k → k < cur + m → ¬ StrLaws.At s sub hi k)
  | 0, cur, st, h, hn => ⟨h, hn⟩
  | m + 1, cur, st, h, hn => by
    rw [List.range'_succ, List.forIn_cons]
    unfold StrLaws.occBody
    have e : cur + (m + 1) = (cur + 1) + m := by omega
    rw [e]
    split
    · rename_i hc
      refine tight_lim s sub hi limit lo hw m (cur + 1) _ ?_ ?_
      · show StrLaws.ChainG s sub hi lo (st.fst.push cur).toList (cur + sub.length)
        rw [Array.toList_push]
        exact StrLaws.chainG_snoc h hc.1.1.2 ⟨hc.1.2, hc.2⟩ (hn hc.1.1.1)
      · intro _ k h1 h2
        have h1' : cur + sub.length ≤ k := h1
        omega
    · rename_i hc
      refine tight_lim s sub hi limit lo hw m (cur + 1) _ h ?_
      intro hl k h1 h2 hA
      by_cases hk : k < cur
      · exact hn hl k h1 hk hA
      · have ek : k = cur := by omega
        subst ek
        exact hc ⟨⟨⟨hl, h1⟩, hA.1⟩, hA.2⟩
theorem occ_lim (x y : Str) (limit : Nat) (hw : 1 ≤ y.length) : ∃ f, StrLaws.ChainG x y x.length 0 (occurrences x y 0 x.length limit) f ∧ ((occurrences x y 0 x.length limit).length < limit → ∀ k, f ≤ k → ¬ StrLaws.At x y x.length k) := by
  rw [StrLaws.occ_eq]
  have key := tight_lim x y x.length limit 0 hw (x.length + 1 - 0) 0 ((#[] : Array Nat), 0) rfl (fun _ k _ h => by omega)
  refine ⟨_, key.1, fun hl k hk hA => ?_⟩
  exact key.2 (by simpa using hl) k hk (by have := hA.1; omega) hA
/-- what is left of a row of words when two of them are cut off -/
def cut3 : List Str → List Str
  | a :: b :: c :: r => [a, b, Str.join tck (c :: r)]
  | W => W
theorem cut3_len : ∀ W : List Str, (cut3 W).length = min W.length 3
  | [] => rfl
  | [_] => rfl
  | [_, _] => rfl
  | _ :: _ :: _ :: r => by simp [cut3]
theorem free_whole {x : Str} (hn : ∀ k, ¬ StrLaws.At x tck x.length k) : Free x := by
  have := StrLaws.part_free x 39 0 x.length (Nat.le_refl _) fun k _ _ => hn k
  rwa [StrLaws.sub_whole] at this
theorem splitMax_join {W : List Str} (h0 : W ≠ []) (hw : ∀ p ∈ W, Free p) : Txt.splitMax (Str.join tck W) tck 2 = cut3 W := by
  have hone : Free (Str.join tck W) → [Str.join tck W] = cut3 W := by
    intro hf
    match W, h0, hf with
    | [x], _, _ => rfl
    | x :: y :: r, _, hf => exact absurd hf (not_free_join2 _ _ _)
  generalize hX : Str.join tck W = X at *
  obtain ⟨f, hG, hn⟩ := occ_lim X tck 2 (Nat.le_refl 1)
  have hle := StrLaws.occ_length_le X tck 0 X.length 2
  have hj := StrLaws.join_partsFrom X tck (occurrences X tck 0 X.length 2) 0
  unfold Txt.splitMax
  rw [show limitOf X 2 = 2 from rfl]
  split
  · rename_i hc
    rw [Bool.or_eq_true, decide_eq_true_eq, decide_eq_true_eq] at hc
    rcases hc with h | h
    · refine hone (free_whole fun k hA => ?_)
      have := hA.1; omega
    · exact hone (StrLaws.kind_free X 39 h)
  · split
    · rename_i he
      have e0 : occurrences X tck 0 X.length 2 = [] := List.isEmpty_iff.mp he
      rw [e0] at hG hn
      have ef : f = 0 := hG
      subst ef
      exact hone (free_whole fun k => hn (by simp) k (Nat.zero_le _))
    · rename_i he
      rw [StrLaws.partsBetween_eq]
      obtain ⟨f', hC⟩ := StrLaws.occ_chain X tck 2
      have hj := hj f' hC
      rw [StrLaws.sub_whole, ← hX] at hj
      revert hj hG hn hle he
      rw [hX]
      generalize occurrences X tck 0 X.length 2 = cuts
      intro hG hn hle he hj
      match cuts, hG, hn, hle, he, hj with
      | [], _, _, _, he, _ => exact absurd rfl he
      | [c], hG, hn, _, _, hj =>
        have q : ∀ p ∈ StrLaws.partsFrom X tck.length 0 [c], Free p := StrLaws.parts_free X 39 [c] 0 f hG (hn (by simp))
        have hj' : Str.join tck (StrLaws.partsFrom X tck.length 0 [c]) = Str.join tck W := by rw [hj, hX]
        rw [join_inj (by simp [StrLaws.partsFrom]) h0 q hw hj']
        have hl : W.length = 2 := by
          rw [← join_inj (by simp [StrLaws.partsFrom]) h0 q hw hj']; rfl
        match W, hl with
        | [_, _], _ => rfl
      | [c, d], hG, _, _, _, hj =>
        obtain ⟨_, hc, hcn, _, hd, hdn, _⟩ := hG
        have p1 : Free (strSub X 0 c) := StrLaws.part_free X 39 0 c (by have := hc.1; omega) hcn
        have p2 : Free (strSub X (c + tck.length) d) := StrLaws.part_free X 39 (c + tck.length) d (by have := hd.1; omega) hdn
        have hj' : Str.join tck [strSub X 0 c, strSub X (c + tck.length) d, strSub X (d + tck.length) X.length] = Str.join tck W := by rw [hX]; exact hj
        show [strSub X 0 c, strSub X (c + tck.length) d, strSub X (d + tck.length) X.length] = cut3 W
        match W, h0, hw, hj' with
        | [x], _, hw, e => exact absurd (hw x (.head _)) (by rw [show x = _ from e.symm]; exact not_free_join2 _ _ _)
        | [x, y], _, hw, e =>
          obtain ⟨_, e2⟩ := join_step p1 (hw x (.head _)) e
          exact absurd (hw y (.tail _ (.head _))) (by rw [show y = _ from e2.symm]; exact not_free_join2 _ _ _)
        | x :: y :: z :: r, _, hw, e =>
          obtain ⟨e1, e2⟩ := join_step p1 (hw x (.head _)) e
          obtain ⟨e3, e4⟩ := join_step p2 (hw y (.tail _ (.head _))) e2
          rw [e1, e3]
          show [x, y, strSub X (d + tck.length) X.length] = [x, y, Str.join tck (z :: r)]
          rw [← e4]; rfl
      | _ :: _ :: _ :: _, _, _, hle, _, _ => simp at hle
theorem len_join : ∀ {W : List Str} {B : Nat}, (∀ p ∈ W, p.length ≤ B) → (Str.join tck W).length ≤ W.length * (B + 1)
  | [], B, _ => by simp [Str.join, Str.empty, Str.length]
  | [x], B, h => by have := h x (.head _); show x.length ≤ _; simp; omega
  | x :: y :: r, B, h => by
    have h1 := h x (.head _)
    have ih := len_join (W := y :: r) (B := B) fun p hp => h p (.tail _ hp)
    show (x ++ tck ++ Str.join tck (y :: r)).length ≤ _
    rw [Str.length_append, Str.length_append, List.length_cons, Nat.add_mul]
    have : tck.length = 1 := rfl
    omega
/-- no sign of a text is the apostrophe, nor nought: so is none of its items -/
theorem free_item {x : Str} (hx : ∀ c ∈ x.cps.toList, c ≠ 39) (i : Int) : Free (Txt.item x i) := by
  unfold Free Txt.item
  intro h
  have e : 39 = (Txt.charAt x i).getD 0 := List.mem_singleton.mp (by simpa using h)
  unfold Txt.charAt at e
  cases hq : seqIndex? i x.length with
  | none => rw [hq, Option.bind_none, Option.getD_none] at e; omega
  | some j =>
    rw [hq, Option.bind_some] at e
    cases hj : x.cps[j]? with
    | none => rw [hj, Option.getD_none] at e; omega
    | some c =>
      rw [hj] at e
      exact hx c (by rw [Array.mem_toList_iff]; exact Array.mem_of_getElem? hj) e.symm
theorem free_append {a b : Str} (ha : Free a) (hb : Free b) : Free (a ++ b) := by
  unfold Free at *
  rw [Str.cps_append, Array.toList_append, List.mem_append]
  exact fun h => h.elim ha hb
theorem free_empty : Free (Str.ofString "") := by unfold Free; decide +kernel
theorem len_empty : (Str.ofString "").length = 0 := by decide +kernel
theorem signs_free : ∀ c ∈ (Str.ofString "ab(%\"\\ é").cps.toList, c ≠ 39 := by decide +kernel
theorem len_item1 (x : Str) (i : Int) : (Txt.item x i).length = 1 := rfl
/-- a word as the law makes them: no apostrophe, three signs at most, each a sign -/
def okS (x : Str) : Prop := Free x ∧ x.length ≤ 3 ∧ PyData.strOk x = true
def okW (ws : List Str) : Prop := ∀ x ∈ ws, okS x
theorem ok_append {a b : Str} (ha : PyData.strOk a = true) (hb : PyData.strOk b = true) : PyData.strOk (a ++ b) = true := by
  unfold PyData.strOk at *
  rw [Str.cps_append, Array.all_append, ha, hb]; rfl
theorem ok_item {x : Str} (hx : PyData.strOk x = true) (i : Int) : PyData.strOk (Txt.item x i) = true := by
  unfold PyData.strOk at *
  have q : (Txt.charAt x i).getD 0 < 0x110000 := by
    unfold Txt.charAt
    cases seqIndex? i x.length with
    | none => rw [Option.bind_none, Option.getD_none]; omega
    | some j =>
      rw [Option.bind_some]
      cases hj : x.cps[j]? with
      | none => rw [Option.getD_none]; omega
      | some c =>
        have := Array.all_eq_true'.mp hx c (Array.mem_of_getElem? hj)
        simpa using this
  show (#[(Txt.charAt x i).getD 0]).all _ = true
  simp [q]
theorem ok_empty : PyData.strOk (Str.ofString "") = true := by decide +kernel
theorem ok_signs : PyData.strOk (Str.ofString "ab(%\"\\ é") = true := by decide +kernel
theorem ok_tck : PyData.strOk tck = true := by decide +kernel
theorem ok_join : ∀ {W : List Str}, (∀ x ∈ W, PyData.strOk x = true) → PyData.strOk (Str.join tck W) = true
  | [], _ => by decide +kernel
  | [x], h => h x (.head _)
  | x :: y :: r, h => ok_append (ok_append (h x (.head _)) ok_tck) (ok_join (W := y :: r) fun z hz => h z (.tail _ hz))
end
theorem getD_mem {b : List Str} {i : Nat} (h : i < b.length) : (srt b).getD i default ∈ b := by
  have h' : i < (srt b).length := by rw [srt_len]; exact h
  rw [List.getD_eq_getElem?_getD, getElem?_pos (srt b) i h', Option.getD_some]
  exact (srt_perm b).mem_iff.mp (List.getElem_mem h')
theorem getD_eq {l : List Str} {i : Nat} (h : i < l.length) : l.getD i default = l[i] := by
  rw [List.getD_eq_getElem?_getD, getElem?_pos l i h, Option.getD_some]
/-- the words of the centre with j pairs about it, woven -/
def suf (S : List Str) (n : Nat) : Nat → List Str
  | 0 => if n % 2 = 1 then [S.getD (n / 2) default] else []
  | j + 1 => S.getD (n / 2 - (j + 1)) default :: S.getD (n - n / 2 + j) default :: suf S n j
theorem suf_len (S : List Str) (n : Nat) : ∀ j, (suf S n j).length = 2 * j + n % 2
  | 0 => by
    unfold suf
    have := Nat.mod_two_eq_zero_or_one n
    split <;> simp <;> omega
  | j + 1 => by
    unfold suf
    rw [List.length_cons, List.length_cons, suf_len S n j]; omega
def outer2 (S : List Str) (n j : Nat) : List Str := S.take (n / 2 - j) ++ S.drop (n - n / 2 + j)
theorem outer2_sorted {ws : List Str} (j : Nat) : (outer2 (srt ws) ws.length j).Pairwise (fun a b => leS a b = true) := by
  have h := srt_sorted ws
  unfold outer2
  have : ((srt ws).take (ws.length / 2 - j) ++ (srt ws).drop (ws.length - ws.length / 2 + j)).Sublist (srt ws) := by
    have h1 : ((srt ws).drop (ws.length - ws.length / 2 + j)).Sublist ((srt ws).drop (ws.length / 2 - j)) := by
      have : ws.length - ws.length / 2 + j = (ws.length / 2 - j) + ((ws.length - ws.length / 2 + j) - (ws.length / 2 - j)) := by omega
      rw [this, ← List.drop_drop]
      exact List.drop_sublist _ _
    have h2 := (List.Sublist.refl ((srt ws).take (ws.length / 2 - j))).append h1
    rwa [List.take_append_drop] at h2
  exact h.sublist this
theorem outer2_len {ws : List Str} {j : Nat} (hj : j ≤ ws.length / 2) : (outer2 (srt ws) ws.length j).length = 2 * (ws.length / 2 - j) := by
  unfold outer2
  rw [List.length_append, List.length_take, List.length_drop, srt_len]; omega
def LaidI (ws b : List Str) (x : Str) : Prop :=
  (b.Perm ws ∧ ws.length % 2 = 1) ∨ ∃ j, j ≤ ws.length / 2 ∧ b.Perm (outer2 (srt ws) ws.length j) ∧ x = Str.join tck (suf (srt ws) ws.length j)
theorem empty_is : Str.ofString "" = Str.empty := by decide +kernel
theorem laid_start (ws : List Str) : LaidI ws ws (Str.ofString "") := by
  rcases Nat.mod_two_eq_zero_or_one ws.length with h | h
  · refine .inr ⟨0, Nat.zero_le _, ?_, ?_⟩
    · unfold outer2
      have e : ws.length - ws.length / 2 + 0 = ws.length / 2 - 0 := by omega
      rw [e, List.take_append_drop]
      exact (srt_perm ws).symm
    · unfold suf
      rw [if_neg (by omega), empty_is]; rfl
  · exact .inl ⟨.refl _, h⟩
theorem laid_mem {ws b : List Str} {x : Str} (h : LaidI ws b x) : ∀ y ∈ b, y ∈ ws := by
  intro y hy
  rcases h with ⟨hp, _⟩ | ⟨j, _, hp, _⟩
  · exact hp.mem_iff.mp hy
  · have := hp.mem_iff.mp hy
    unfold outer2 at this
    rcases List.mem_append.mp this with q | q
    · exact (srt_perm ws).mem_iff.mp (List.mem_of_mem_take q)
    · exact (srt_perm ws).mem_iff.mp (List.mem_of_mem_drop q)
theorem laid_len {ws b : List Str} {x : Str} (h : LaidI ws b x) : b.length ≤ ws.length ∧ (b.length % 2 = 1 → b.length = ws.length) := by
  rcases h with ⟨hp, _⟩ | ⟨j, hj, hp, _⟩
  · have := hp.length_eq; omega
  · have := hp.length_eq
    rw [outer2_len hj] at this; omega
theorem laid_end {ws b : List Str} {x : Str} (h : LaidI ws b x) (hb : b.length = 0) : x = Str.join tck (suf (srt ws) ws.length (ws.length / 2)) := by
  rcases h with ⟨hp, _⟩ | ⟨j, hj, hp, hx⟩
  · have := hp.length_eq; omega
  · have := hp.length_eq
    rw [outer2_len hj] at this
    rw [hx, show j = ws.length / 2 by omega]
theorem take_drop_split {S : List Str} {i : Nat} (h : i < S.length) : S.take i ++ S.getD i default :: S.drop (i + 1) = S := by
  rw [getD_eq h, ← List.drop_eq_getElem_cons h, List.take_append_drop]
theorem perm_mid {S : List Str} {i : Nat} (h : i < S.length) : S.Perm (S.getD i default :: (S.take i ++ S.drop (i + 1))) := by
  have := take_drop_split h
  exact (List.Perm.of_eq this.symm).trans List.perm_middle
theorem laid_odd {ws b : List Str} {x : Str} (h : LaidI ws b x) (ho : b.length % 2 = 1) : LaidI ws (b.erase ((srt b).getD ((b.length - 1) / 2) default)) ((srt b).getD ((b.length - 1) / 2) default) := by
  rcases h with ⟨hp, hw⟩ | ⟨j, hj, hp, hx⟩
  · have hl := hp.length_eq
    have hs : srt b = srt ws := sorted_unique ((srt_perm b).trans (hp.trans (srt_perm ws).symm)) (srt_sorted b) (srt_sorted ws)
    rw [hs, hl, show (ws.length - 1) / 2 = ws.length / 2 by omega]
    refine .inr ⟨0, Nat.zero_le _, ?_, ?_⟩
    · have hi : ws.length / 2 < (srt ws).length := by rw [srt_len]; omega
      have q := perm_mid hi
      have q2 := (hp.trans ((srt_perm ws).symm.trans q)).erase ((srt ws).getD (ws.length / 2) default)
      rw [List.erase_cons_head] at q2
      unfold outer2
      rwa [show ws.length / 2 - 0 = ws.length / 2 by omega, show ws.length - ws.length / 2 + 0 = ws.length / 2 + 1 by omega]
    · unfold suf
      rw [if_pos hw]; rfl
  · have := hp.length_eq
    rw [outer2_len hj] at this; omega
/-- the two in the middle, and the rest -/
theorem perm_two {B : List Str} {r : Nat} (h : B.length = 2 * (r + 1)) : B.Perm (B.getD r default :: B.getD (r + 1) default :: (B.take r ++ B.drop (r + 2))) := by
  have h1 := take_drop_split (S := B) (i := r) (by omega)
  have h2 : B.getD (r + 1) default :: B.drop (r + 2) = B.drop (r + 1) := by
    rw [getD_eq (by omega), ← List.drop_eq_getElem_cons (by omega)]
  rw [← h2] at h1
  refine (List.Perm.of_eq h1.symm).trans ?_
  refine List.perm_middle.trans (List.Perm.cons _ List.perm_middle)
theorem even_two {b : List Str} (h0 : 0 < b.length) (he : b.length % 2 = 0) : b.Perm ((srt b).getD ((b.length - 1) / 2) default :: (srt b).getD (b.length / 2) default :: ((srt b).take ((b.length - 1) / 2) ++ (srt b).drop (b.length / 2 + 1))) := by
  have q := perm_two (B := srt b) (r := (b.length - 1) / 2) (by rw [srt_len]; omega)
  rw [show (b.length - 1) / 2 + 1 = b.length / 2 by omega, show (b.length - 1) / 2 + 2 = b.length / 2 + 1 by omega] at q
  exact (srt_perm b).symm.trans q
theorem high_mem {b : List Str} (h0 : 0 < b.length) (he : b.length % 2 = 0) : (srt b).getD (b.length / 2) default ∈ b.erase ((srt b).getD ((b.length - 1) / 2) default) := by
  have q := (even_two h0 he).erase ((srt b).getD ((b.length - 1) / 2) default)
  rw [List.erase_cons_head] at q
  exact q.mem_iff.mpr (.head _)
theorem join_more (a b : Str) {W : List Str} (h : W ≠ []) : Str.join tck (a :: b :: W) = a ++ tck ++ b ++ (tck ++ Str.join tck W) := by
  cases W with
  | nil => exact absurd rfl h
  | cons c r =>
    show a ++ tck ++ (b ++ tck ++ Str.join tck (c :: r)) = _
    simp only [Str.append_assoc]
theorem join_two (a b : Str) : Str.join tck [a, b] = a ++ tck ++ b ++ Str.ofString "" := by
  rw [empty_is, Str.append_empty]; rfl
theorem laid_even {ws b : List Str} {x y : Str} (h : LaidI ws b x) (h0 : 0 < b.length) (he : b.length % 2 = 0)
    (hy : y = if b.length < ws.length then (srt b).getD ((b.length - 1) / 2) default ++ tck ++ (srt b).getD (b.length / 2) default ++ (tck ++ x) else (srt b).getD ((b.length - 1) / 2) default ++ tck ++ (srt b).getD (b.length / 2) default ++ Str.ofString "") :
    LaidI ws ((b.erase ((srt b).getD ((b.length - 1) / 2) default)).erase ((srt b).getD (b.length / 2) default)) y := by
  rcases h with ⟨hp, hw⟩ | ⟨j, hj, hp, hx⟩
  · have := hp.length_eq; omega
  · have hl := hp.length_eq
    rw [outer2_len hj] at hl
    have hs : srt b = outer2 (srt ws) ws.length j := srt_of_pairwise hp.symm (outer2_sorted j)
    have q := (even_two h0 he).erase ((srt b).getD ((b.length - 1) / 2) default)
    rw [List.erase_cons_head] at q
    have q := q.erase ((srt b).getD (b.length / 2) default)
    rw [List.erase_cons_head] at q
    have hS : (srt ws).length = ws.length := srt_len ws
    have elow : (srt b).getD ((b.length - 1) / 2) default = (srt ws).getD (ws.length / 2 - (j + 1)) default := by
      rw [hs, show (b.length - 1) / 2 = ws.length / 2 - (j + 1) by omega]
      unfold outer2
      rw [List.getD_eq_getElem?_getD, List.getD_eq_getElem?_getD, List.getElem?_append_left (by rw [List.length_take]; omega), List.getElem?_take_of_lt (by omega)]
    have ehigh : (srt b).getD (b.length / 2) default = (srt ws).getD (ws.length - ws.length / 2 + j) default := by
      rw [hs]
      unfold outer2
      rw [List.getD_eq_getElem?_getD, List.getD_eq_getElem?_getD, List.getElem?_append_right (by rw [List.length_take]; omega), List.getElem?_drop, List.length_take]
      congr 2; omega
    have hlen : (suf (srt ws) ws.length j).length = 2 * j + ws.length % 2 := suf_len _ _ _
    refine .inr ⟨j + 1, by omega, ?_, ?_⟩
    · refine q.trans (List.Perm.of_eq ?_)
      rw [hs]
      unfold outer2
      rw [List.take_append_of_le_length (by rw [List.length_take]; omega), List.take_take, List.drop_append, List.drop_eq_nil_of_le (by rw [List.length_take]; omega), List.nil_append, List.drop_drop, List.length_take]
      congr 2 <;> omega
    · rw [hy]
      show _ = Str.join tck ((srt ws).getD (ws.length / 2 - (j + 1)) default :: (srt ws).getD (ws.length - ws.length / 2 + j) default :: suf (srt ws) ws.length j)
      rw [elow, ehigh]
      split
      · rw [join_more _ _ (by intro e; rw [e] at hlen; simp at hlen; omega), ← hx]
      · have e : suf (srt ws) ws.length j = [] := List.eq_nil_of_length_eq_zero (by rw [hlen]; omega)
        rw [e, join_two]
theorem tick_len : (Str.ofString "'").length = 1 := by decide +kernel
theorem suf_mem {ws : List Str} {n : Nat} (h0 : 0 < ws.length) (hn : n = ws.length) : ∀ j, j ≤ n / 2 → ∀ y ∈ suf (srt ws) n j, y ∈ ws
  | 0, _, y, hy => by
    unfold suf at hy
    split at hy
    · rw [List.mem_singleton.mp hy]; exact getD_mem (by omega)
    · cases hy
  | j + 1, hj, y, hy => by
    unfold suf at hy
    rcases List.mem_cons.mp hy with rfl | hy
    · exact getD_mem (by omega)
    · rcases List.mem_cons.mp hy with rfl | hy
      · exact getD_mem (by omega)
      · exact suf_mem h0 hn j (by omega) y hy
theorem laid_short {ws b : List Str} {x : Str} (h : LaidI ws b x) (h0 : 0 < ws.length) (h1 : ws.length ≤ 10) (ok : okW ws) (he : b.length % 2 = 0) : x.length ≤ 100 := by
  rcases h with ⟨hp, hw⟩ | ⟨j, hj, hp, hx⟩
  · have := hp.length_eq; omega
  · have q := len_join (W := suf (srt ws) ws.length j) (B := 3) fun y hy => (ok y (suf_mem h0 rfl j hj y hy)).2.1
    rw [suf_len] at q
    rw [hx]; omega
theorem okS_lits : okS (Str.ofString "b") ∧ okS (Str.ofString "") ∧ okS (Str.ofString "ab") ∧ okS (Str.ofString "a(") := by
  unfold okS Free
  refine ⟨⟨?_, ?_, ?_⟩, ⟨?_, ?_, ?_⟩, ⟨?_, ?_, ?_⟩, ⟨?_, ?_, ?_⟩⟩ <;> decide +kernel
theorem okW_five : okW [Str.ofString "b", Str.ofString "", Str.ofString "ab", Str.ofString "b", Str.ofString "a("] := by
  obtain ⟨h1, h2, h3, h4⟩ := okS_lits
  intro x hx
  simp only [List.mem_cons, List.not_mem_nil, or_false] at hx
  rcases hx with rfl | rfl | rfl | rfl | rfl <;> assumption
theorem okW_snoc {xs : List Str} {x : Str} (h : okW xs) (hx : okS x) : okW (xs ++ [x]) := by
  intro y hy
  rcases List.mem_append.mp hy with q | q
  · exact h y q
  · rw [List.mem_singleton.mp q]; exact hx
theorem okW_take {ws : List Str} (h : okW ws) (k : Nat) : okW (ws.take k) := fun x hx => h x (List.mem_of_mem_take hx)
/-- a word lies at a place: so many lie below it, and so many are alike -/
def AtPl (ws : List Str) (x : Str) (i : Int) : Prop := ((ws.filter (fun y => decide (y.cps.toList < x.cps.toList))).length : Int) ≤ i ∧ i < ((ws.filter (fun y => decide (y.cps.toList < x.cps.toList))).length : Int) + ((ws.filter (fun y => y == x)).length : Int)
theorem split_lt_eq (x : Str) : ∀ A : List Str, (∀ y ∈ A, leS y x = true) → A.length = (A.filter (fun y => decide (y.cps.toList < x.cps.toList))).length + (A.filter (fun y => y == x)).length
  | [], _ => rfl
  | y :: r, h => by
    have ih := split_lt_eq x r fun z hz => h z (.tail _ hz)
    have hy := h y (.head _)
    rw [leS_iff] at hy
    by_cases e : y = x
    · subst e
      rw [List.filter_cons_of_neg (by simp), List.filter_cons_of_pos (by simp), List.length_cons, List.length_cons]; omega
    · have hlt : y.cps.toList < x.cps.toList := by
        rcases Decidable.em (y.cps.toList < x.cps.toList) with q | q
        · exact q
        · exact absurd (str_inj (List.le_antisymm hy (List.not_lt.mp q))) e
      rw [List.filter_cons_of_pos (by simpa using hlt), List.filter_cons_of_neg (by simpa using e), List.length_cons, List.length_cons]; omega
theorem at_of {ws : List Str} {i : Nat} {z : Int} (hi : i < ws.length) (hz : z = (i : Int)) : AtPl ws ((srt ws).getD i default) z := by
  subst hz
  have hS : (srt ws).length = ws.length := srt_len ws
  have hlt : i < (srt ws).length := by omega
  have hp := srt_perm ws
  have hs := srt_sorted ws
  generalize hx : (srt ws).getD i default = x
  have p1 := (hp.filter (fun y => decide (y.cps.toList < x.cps.toList))).length_eq
  have p2 := (hp.filter (fun y => y == x)).length_eq
  unfold AtPl
  rw [← p1, ← p2]
  have hsplit := take_drop_split hlt
  rw [hx] at hsplit
  rw [← hsplit] at hs
  rw [List.pairwise_append] at hs
  obtain ⟨_, h2, h3⟩ := hs
  have hA : ∀ y ∈ (srt ws).take i, leS y x = true := fun y hy => h3 y hy x (.head _)
  have hB : ∀ y ∈ (srt ws).drop (i + 1), leS x y = true := (List.pairwise_cons.mp h2).1
  have hBl : ((x :: (srt ws).drop (i + 1)).filter (fun y => decide (y.cps.toList < x.cps.toList))) = [] := by
    rw [List.filter_eq_nil_iff]
    intro y hy
    have : leS x y = true := by
      rcases List.mem_cons.mp hy with rfl | hy
      · exact leS_refl _
      · exact hB y hy
    rw [leS_iff] at this
    simpa using List.not_lt.mpr this
  have hAl := split_lt_eq x _ hA
  have hlen : ((srt ws).take i).length = i := by rw [List.length_take]; omega
  have e1 : ((srt ws).filter (fun y => decide (y.cps.toList < x.cps.toList))).length = (((srt ws).take i).filter (fun y => decide (y.cps.toList < x.cps.toList))).length := by
    conv => lhs; rw [← hsplit]
    rw [List.filter_append, hBl, List.append_nil]
  have e2 : ((srt ws).filter (fun y => y == x)).length ≥ (((srt ws).take i).filter (fun y => y == x)).length + 1 := by
    conv => lhs; rw [← hsplit]
    rw [List.filter_append, List.length_append, List.filter_cons_of_pos (by simp), List.length_cons]; omega
  omega
def midS (S : List Str) (n j : Nat) : List Str := (S.drop (n / 2 - j)).take (2 * j + n % 2)
theorem mid_succ {S : List Str} {n j : Nat} (hS : S.length = n) (hj : j + 1 ≤ n / 2) : midS S n (j + 1) = S.getD (n / 2 - (j + 1)) default :: (midS S n j ++ [S.getD (n - n / 2 + j) default]) := by
  unfold midS
  have h1 : n / 2 - (j + 1) < S.length := by omega
  rw [List.drop_eq_getElem_cons h1, getD_eq h1, show n / 2 - (j + 1) + 1 = n / 2 - j by omega, show 2 * (j + 1) + n % 2 = (2 * j + n % 2 + 1) + 1 by omega, List.take_succ_cons, List.take_add_one, List.getElem?_drop, show n / 2 - j + (2 * j + n % 2) = n - n / 2 + j by omega]
  have h2 : n - n / 2 + j < S.length := by omega
  rw [getElem?_pos S _ h2, getD_eq h2]; rfl
theorem suf_perm {S : List Str} {n : Nat} (hS : S.length = n) (h0 : 0 < n) : ∀ j, j ≤ n / 2 → (suf S n j).Perm (midS S n j)
  | 0, _ => by
    unfold suf midS
    rcases Nat.mod_two_eq_zero_or_one n with h | h
    · rw [if_neg (by omega), h]; simp
    · have h1 : n / 2 - 0 < S.length := by omega
      rw [if_pos h, h, List.drop_eq_getElem_cons h1, show 2 * 0 + 1 = 0 + 1 by omega, List.take_succ_cons, List.take_zero, getD_eq (by omega)]
      exact .refl _
  | j + 1, hj => by
    rw [mid_succ hS hj]
    unfold suf
    refine List.Perm.cons _ ?_
    exact ((suf_perm hS h0 j (by omega)).cons _).trans (List.perm_append_singleton _ _).symm
theorem srt_suf {ws : List Str} (h0 : 0 < ws.length) {j : Nat} (hj : j ≤ ws.length / 2) : srt (suf (srt ws) ws.length j) = midS (srt ws) ws.length j :=
  srt_of_pairwise (suf_perm (srt_len ws) h0 j hj).symm ((srt_sorted ws).sublist ((List.take_sublist _ _).trans (List.drop_sublist _ _)))
theorem mid_get {S : List Str} {n j i : Nat} (hi : i < 2 * j + n % 2) : (midS S n j).getD i default = S.getD (n / 2 - j + i) default := by
  unfold midS
  rw [List.getD_eq_getElem?_getD, List.getD_eq_getElem?_getD, List.getElem?_take_of_lt hi, List.getElem?_drop]
theorem low_suf {ws : List Str} (h0 : 0 < ws.length) {j : Nat} (hj : j ≤ ws.length / 2) (hp : 0 < 2 * j + ws.length % 2) :
    (srt (suf (srt ws) ws.length j)).getD (((suf (srt ws) ws.length j).length - 1) / 2) default = (srt ws).getD ((ws.length - 1) / 2) default := by
  rw [srt_suf h0 hj, suf_len, mid_get (by omega), show ws.length / 2 - j + (2 * j + ws.length % 2 - 1) / 2 = (ws.length - 1) / 2 by omega]
theorem high_suf {ws : List Str} (h0 : 0 < ws.length) {j : Nat} (hj : j ≤ ws.length / 2) (hp : 0 < 2 * j + ws.length % 2) :
    (srt (suf (srt ws) ws.length j)).getD ((suf (srt ws) ws.length j).length / 2) default = (srt ws).getD (ws.length / 2) default := by
  rw [srt_suf h0 hj, suf_len, mid_get (by omega), show ws.length / 2 - j + (2 * j + ws.length % 2) / 2 = ws.length / 2 by omega]
theorem suf_at {S : List Str} {n i : Nat} (hi : i < (n - 1) / 2) : suf S n (n / 2 - i) = S.getD i default :: S.getD (n - 1 - i) default :: suf S n (n / 2 - (i + 1)) := by
  have e : n / 2 - i = (n / 2 - (i + 1)) + 1 := by omega
  rw [e]
  show S.getD (n / 2 - (n / 2 - (i + 1) + 1)) default :: S.getD (n - n / 2 + (n / 2 - (i + 1))) default :: suf S n (n / 2 - (i + 1)) = _
  rw [show n / 2 - (n / 2 - (i + 1) + 1) = i by omega, show n - n / 2 + (n / 2 - (i + 1)) = n - 1 - i by omega]
theorem suf_free {ws : List Str} (h0 : 0 < ws.length) (ok : okW ws) {j : Nat} (hj : j ≤ ws.length / 2) : ∀ p ∈ suf (srt ws) ws.length j, Free p := fun y hy => (ok y (suf_mem h0 rfl j hj y hy)).1
theorem suf_short {ws : List Str} (h0 : 0 < ws.length) (h1 : ws.length ≤ 10) (ok : okW ws) {j : Nat} (hj : j ≤ ws.length / 2) : (Str.join tck (suf (srt ws) ws.length j)).length ≤ 1000 := by
  have q := len_join (W := suf (srt ws) ws.length j) (B := 3) fun y hy => (ok y (suf_mem h0 rfl j hj y hy)).2.1
  rw [suf_len] at q
  omega
theorem suf_ok {ws : List Str} (h0 : 0 < ws.length) (ok : okW ws) {j : Nat} (hj : j ≤ ws.length / 2) : PyData.strOk (Str.join tck (suf (srt ws) ws.length j)) = true := ok_join fun y hy => (ok y (suf_mem h0 rfl j hj y hy)).2.2
/-- what is left at the end: the word in the middle, or the two -/
theorem suf_end {ws : List Str} (h0 : 0 < ws.length) : Str.join tck (suf (srt ws) ws.length (ws.length / 2 - (ws.length - 1) / 2)) = if ws.length % 2 = 1 then (srt ws).getD ((ws.length - 1) / 2) default else (srt ws).getD ((ws.length - 1) / 2) default ++ tck ++ (srt ws).getD (ws.length / 2) default := by
  rcases Nat.mod_two_eq_zero_or_one ws.length with h | h
  · rw [if_neg (by omega), show ws.length / 2 - (ws.length - 1) / 2 = 0 + 1 by omega]
    show Str.join tck ((srt ws).getD (ws.length / 2 - (0 + 1)) default :: (srt ws).getD (ws.length - ws.length / 2 + 0) default :: suf (srt ws) ws.length 0) = _
    unfold suf
    rw [if_neg (by omega), show ws.length / 2 - (0 + 1) = (ws.length - 1) / 2 by omega, show ws.length - ws.length / 2 + 0 = ws.length / 2 by omega]; rfl
  · rw [if_pos h, show ws.length / 2 - (ws.length - 1) / 2 = 0 by omega]
    unfold suf
    rw [if_pos h, show (ws.length - 1) / 2 = ws.length / 2 by omega]; rfl
section
variable {prog : Program} {w : World} {A : Around} {E : Value → Shared → Prop} {s : Shared} {h₀ : Heap} {L : Addr} {m : Str → Option Value} {news : List (Addr × Obj)} {l : Addr} {n : Nat} {vs : List Value} {ws : List Str}
theorem sorted_T {Q : Value → Shared → Prop} (F : Fr h₀ L s.heap m) (N : News h₀ L s.heap news) (hm : (l, seqObj "list" vs.toArray n) ∈ news) (hS : StrsAre vs ws) (h64 : ws.length < 64)
    (h : ∀ (a : Addr) (h' : Heap) (vs' : List Value) (e : Nat), Fr h₀ L h' m → News h₀ L h' ((a, seqObj "list" vs'.toArray e) :: news) → (∀ p ∈ news, p.1 < a) → StrsAre vs' (srt ws) → Q (.ref a) { s with heap := h' }) :
    wpAny (model prog w) A (call (.builtin "sorted") [.ref l]) Q E s := by
  refine sorted_N_str F N (News.isList N hm) hS (by rw [hS.length]; exact h64) fun h' vs' ss' e F' N' hS' hp hs => ?_
  rw [srt_unique hp hs] at hS'
  exact h _ h' vs' e F' N' (fun p hp => Nat.lt_succ_of_lt (Heap.lt_size (N p hp).1)) hS'
theorem item_T {value slice : PySem.Expr} {k : Int} {u : Tok} {Q : Value → Shared → Prop} (N : News h₀ L s.heap news) (hm : (l, seqObj "list" vs.toArray n) ∈ news) (hS : StrsAre vs ws) (h0 : 0 ≤ k) (hk : k < ws.length) (hz : ws.length < 2 ^ 62)
    (h : ∀ t, Q (.str (ws.getD k.toNat default) t) s)
    (hs : subscripted slice false (.ref l) (.int k u) = operate [.ref l, .int k u] (getItem (.ref l) (.int k u)) := by with_unfolding_all rfl) :
    wpAny (model prog w) A (subscriptTail value slice (.ref l) (.int k u)) Q E s := by
  have hL := News.isList N hm
  have hlt : k.toNat < ws.length := by omega
  obtain ⟨t, ht⟩ := hS.get k.toNat ws[k.toNat] (by simp [hlt])
  refine tail_any hL.typeIs slot_list_getitem.lookup (wpAny_getItem_list hL h0 (by omega) (by simpa using ht) ?_) hs
  have := h t
  rwa [List.getD_eq_getElem?_getD, getElem?_pos ws _ hlt] at this
theorem len_T {Q : Value → Shared → Prop} (N : News h₀ L s.heap news) (hm : (l, seqObj "list" vs.toArray n) ∈ news) (hS : StrsAre vs ws) {k : Nat} (hk : ws.length = k) (hz : k < 2 ^ 62)
    (h : ∀ t tk, Q (.int k t) { s with toks := tk }) : wpAny (model prog w) A (call (.builtin "len") [.ref l]) Q E s := by
  have e : vs.toArray.size = k := by rw [List.size_toArray, hS.length]; exact hk
  exact PyProof.Rows.len_list (News.isList N hm) (by rw [e]; omega) (by rw [e]; exact h _ _)
end
theorem fdiv2 (a : Int) : a.fdiv 2 = a / 2 := Int.fdiv_eq_ediv_of_nonneg a (by decide)
theorem fdiv4 (a : Int) : a.fdiv 4 = a / 4 := Int.fdiv_eq_ediv_of_nonneg a (by decide)
theorem fdiv8 (a : Int) : a.fdiv 8 = a / 8 := Int.fdiv_eq_ediv_of_nonneg a (by decide)
theorem fmod2 (a : Int) : a.fmod 2 = a % 2 := Int.fmod_eq_emod_of_nonneg a (by decide)
theorem fmod4 (a : Int) : a.fmod 4 = a % 4 := Int.fmod_eq_emod_of_nonneg a (by decide)
theorem fmod8 (a : Int) : a.fmod 8 = a % 8 := Int.fmod_eq_emod_of_nonneg a (by decide)

/-- what a def of the text does when called: from any frame, over any ledger; what it hands back is r, and tl is what it has made and hands on -/
abbrev Ct (prog : Program) (w : World) (K : Frag) (p : Program) (loose : List Str) (mean : ExcName → Option Value) (mg mb : Str → Option Value) (f : Addr) (d : Nat) (news : List (Addr × Obj)) (vs : List Value) (Post : Value → List (Addr × Obj) → Prop) : Prop :=
  ∀ (dp un : Nat) (gd : Option (List Code)) (cn : Str) (cs : Scope) (a : Addr) (ccd : Value) (cl : List (Str × Addr)) (outer : List Env) (A₀ : Around) (base h₀ : Heap) (L : Addr) (m : Str → Option Value) (s : Shared) (Q E : Value → Shared → Prop),
    Below A₀ base outer h₀ → Fr h₀ L s.heap m → K.In h₀ → News h₀ L s.heap news → Top p loose mean mg mb h₀ → cs.kind = .function → dp + d < recursionLimit → un + 8 * d < cLine →
    (∀ (r : Value) (tl : List (Addr × Obj)) (h' : Heap) (tk' : Nat), Post r tl → Fr h₀ L h' m → News h₀ L h' (tl ++ news) → (∀ q ∈ news, ∀ p ∈ tl, q.1 < p.1) → Q r { s with heap := h', toks := tk' }) →
    wpAny (model prog w) (ktrTop dp un gd cn cs L a ccd cl outer) (call (.ref f) vs) Q E s
theorem Ct.use {prog : Program} {w : World} {K : Frag} {p : Program} {loose : List Str} {mean : ExcName → Option Value} {mg mb : Str → Option Value} {f : Addr} {d : Nat} {news : List (Addr × Obj)} {vs : List Value} {Post : Value → List (Addr × Obj) → Prop}
    {dp un : Nat} {gd : Option (List Code)} {cn : Str} {cs : Scope} {a : Addr} {ccd : Value} {cl : List (Str × Addr)} {outer : List Env} {A₀ : Around} {base h₀ : Heap} {L : Addr} {m : Str → Option Value} {s : Shared} {Q E : Value → Shared → Prop}
    (C : Ct prog w K p loose mean mg mb f d news vs Post) (B : Below A₀ base outer h₀) (F : Fr h₀ L s.heap m) (X : K.In h₀) (N : News h₀ L s.heap news) (T : Top p loose mean mg mb h₀) (hk : cs.kind = .function) (hd : dp + d < recursionLimit) (hu : un + 8 * d < cLine)
    (ret : ∀ (r : Value) (tl : List (Addr × Obj)) (h' : Heap) (tk' : Nat), Post r tl → Fr h₀ L h' m → News h₀ L h' (tl ++ news) → (∀ q ∈ news, ∀ p ∈ tl, q.1 < p.1) → Q r { s with heap := h', toks := tk' }) :
    wpAny (model prog w) (ktrTop dp un gd cn cs L a ccd cl outer) (call (.ref f) vs) Q E s := C _ _ _ _ _ _ _ _ _ _ _ _ _ _ _ _ _ B F X N T hk hd hu ret
theorem ct_ret {h₀ h' : Heap} {L : Addr} {m : Str → Option Value} {news : List (Addr × Obj)} {s : Shared} {Q : Value → Shared → Prop} {tk' : Nat} {Post : Value → List (Addr × Obj) → Prop} {r : Value} {tl : List (Addr × Obj)}
    (hret : ∀ (r : Value) (tl : List (Addr × Obj)) (h' : Heap) (tk' : Nat), Post r tl → Fr h₀ L h' m → News h₀ L h' (tl ++ news) → (∀ q ∈ news, ∀ p ∈ tl, q.1 < p.1) → Q r { s with heap := h', toks := tk' })
    (e : Post r tl) (F : Fr h₀ L h' m) (N : News h₀ L h' (tl ++ news)) (hl : ∀ q ∈ news, ∀ p ∈ tl, q.1 < p.1) : Q r { s with heap := h', toks := tk' } := hret r tl h' tk' e F N hl
theorem lt_nil {news : List (Addr × Obj)} : ∀ q ∈ news, ∀ p ∈ ([] : List (Addr × Obj)), q.1 < p.1 := fun _ _ _ h => nomatch h
theorem lt_one {news : List (Addr × Obj)} {a : Addr} {o : Obj} (h : ∀ q ∈ news, q.1 < a) : ∀ q ∈ news, ∀ p ∈ [(a, o)], q.1 < p.1 := fun q hq p hp => by rw [List.mem_singleton.mp hp]; exact h q hq
theorem allLt_mem {d : Addr} : ∀ (l : List (Addr × Obj)), AllLt d l → ∀ p ∈ l, p.1 < d
  | [], _, _, hq => nomatch hq
  | p :: r, h, q, hq => by
    cases hq with
    | head => exact h.1
    | tail _ hq => exact allLt_mem r h.2 q hq
theorem news_one {h₀ h' : Heap} {L : Addr} {news news' : List (Addr × Obj)} {a : Addr} {o : Obj} (N : News h₀ L h' news') (hin : (a, o) ∈ news') (hsub : ∀ p ∈ news, p ∈ news') : News h₀ L h' ([(a, o)] ++ news) := by
  intro p hp
  cases hp with
  | head => exact N _ hin
  | tail _ hp => exact N _ (hsub _ hp)
theorem ct_ret1 {h₀ h' : Heap} {L : Addr} {m : Str → Option Value} {news news' : List (Addr × Obj)} {s : Shared} {Q : Value → Shared → Prop} {tk' : Nat} {Post : Value → List (Addr × Obj) → Prop} {a : Addr} {o : Obj}
    (hret : ∀ (r : Value) (tl : List (Addr × Obj)) (h' : Heap) (tk' : Nat), Post r tl → Fr h₀ L h' m → News h₀ L h' (tl ++ news) → (∀ q ∈ news, ∀ p ∈ tl, q.1 < p.1) → Q r { s with heap := h', toks := tk' })
    (F : Fr h₀ L h' m) (N : News h₀ L h' news') (hin : (a, o) ∈ news') (hsub : ∀ p ∈ news, p ∈ news') (hl : ∀ q ∈ news, q.1 < a) (e : Post (.ref a) [(a, o)]) : Q (.ref a) { s with heap := h', toks := tk' } :=
  hret (.ref a) [(a, o)] h' tk' e F (news_one N hin hsub) (lt_one hl)
section
variable {prog : Program} {w : World} {A : Around} {E : Value → Shared → Prop} {s : Shared} {h₀ : Heap} {L : Addr} {m : Str → Option Value} {news : List (Addr × Obj)} {W : List Str} {x : Str} {t u v : Tok}
theorem fit_of {x : Str} (h : x.length ≤ 1000) : x.length + 2 ≤ sizeLine := by rw [sizeLine_eq]; omega
theorem split2_T {Q : Value → Shared → Prop} (F : Fr h₀ L s.heap m) (N : News h₀ L s.heap news) (hx : x = Str.join tck W) (h0 : W ≠ []) (hw : ∀ p ∈ W, Free p) (hz : x.length ≤ 1000)
    (h : ∀ (a : Addr) (h' : Heap) (vs' : List Value) (tk' : Nat), Fr h₀ L h' m → News h₀ L h' ((a, seqObj "list" vs'.toArray 0) :: news) → (∀ p ∈ news, p.1 < a) → StrsAre vs' (cut3 W) → Q (.ref a) { s with heap := h', toks := tk' }) :
    wpAny (model prog w) A (call (.builtin "str.split") [.str x t, .str (Str.ofString "'") u, .int 2 v]) Q E s := by
  rw [tick_is]
  refine splitN2A F N (by decide) (by decide) (fun l h' tk' e hS _ _ F' N' => ?_) (fit_of hz)
  subst hx
  rw [splitMax_join h0 hw] at e
  rw [e] at hS
  exact h _ h' (strValues l) tk' F' N' (fun p hp => Heap.lt_size (N p hp).1) hS
theorem split1_T {Q : Value → Shared → Prop} (F : Fr h₀ L s.heap m) (N : News h₀ L s.heap news) (hx : x = Str.join tck W) (h0 : W ≠ []) (hw : ∀ p ∈ W, Free p) (hz : x.length ≤ 1000)
    (h : ∀ (a : Addr) (h' : Heap) (vs' : List Value) (tk' : Nat), Fr h₀ L h' m → News h₀ L h' ((a, seqObj "list" vs'.toArray 0) :: news) → (∀ p ∈ news, p.1 < a) → StrsAre vs' W → Q (.ref a) { s with heap := h', toks := tk' }) :
    wpAny (model prog w) A (call (.builtin "str.split") [.str x t, .str (Str.ofString "'") u]) Q E s := by
  rw [tick_is]
  refine splitN1A F N (by decide) (fun l h' tk' e hS _ _ F' N' => ?_) (fit_of hz)
  subst hx
  rw [split_join h0 hw] at e
  rw [e] at hS
  exact h _ h' (strValues l) tk' F' N' (fun p hp => Heap.lt_size (N p hp).1) hS
end
/-- a mark at which the walk halts -/
def Halt (P : Prop) : Prop := P
theorem halt {P : Prop} (h : Halt P) : P := h
theorem Halt.out {P : Prop} (h : P) : Halt P := h
section
open LCg LCt
variable {prog : Program} {w : World} {A : Around} {s : Shared} {h₀ : Heap} {L : Addr} {m : Str → Option Value} {env : Env} {news : List (Addr × Obj)}
/-- the turns of «[v for v in xs if test]» over texts -/
theorem restT_filter {ct elt : PySem.Expr} {x : Str} {scope : Scope} {cl : List (Str × Addr)} {S : List (Addr × Obj) → Prop} {Fin : List Value → List (Addr × Obj) → Prop} {its : Array Value} (f : Str → Bool) (hSn : S news)
    (test : ∀ y t I oI C oC D m₂ h tk ys (E' : Value → Shared → Prop) (Q : Bool → Shared → Prop), NsObj oC m₂ → m₂ x = some (.str y t) → Fr h₀ L h m → News h₀ L h ((I, oI) :: (C, oC) :: (D, lst ys) :: news) → (∀ tk', Q (f y) { s with heap := h, toks := tk' }) →
      wpAny (model prog w) A (isTrue ct (compEnvC scope cl C env) (eval ct (compEnvC scope cl C env))) Q E' { s with heap := h, toks := tk })
    (elem : ∀ v I oI C oC D m₂ h tk ys (E' : Value → Shared → Prop) (Q : Value → Shared → Prop), NsObj oC m₂ → m₂ x = some v → Fr h₀ L h m → News h₀ L h ((I, oI) :: (C, oC) :: (D, lst ys) :: news) → (∀ tk', Q v { s with heap := h, toks := tk' }) →
      wpAny (model prog w) A (eval elt (compEnvC scope cl C env)) Q E' { s with heap := h, toks := tk }) :
    ∀ (k i : Nat) (vs : List Value) (ws : List Str) (ys : List Value) (zs : List Str), its.toList.drop i = vs → vs.length = k → StrsAre vs ws → StrsAre ys zs → (∀ ys', StrsAre ys' (zs ++ ws.filter f) → Fin ys' news) →
      CompRestT prog w A h₀ L m env ct elt x scope cl s S (fun i v => its[i]? = some v) Fin k i ys news
  | 0, i, vs, ws, ys, zs, _, hk, hv, hy, fin => by
    cases hv with
    | nil => exact fin ys (by simpa using hy)
    | cons => simp at hk
  | k + 1, i, vs, ws, ys, zs, hd, hk, hv, hy, fin => by
    cases hv with
    | nil => simp at hk
    | @cons y t vs' ws' hv' =>
      have hi : its[i]? = some (.str y t) := by
        have := congrArg (·[0]?) hd
        simp only [List.getElem?_drop, Nat.add_zero, List.getElem?_cons_zero] at this
        rwa [Array.getElem?_toList] at this
      have hd' : its.toList.drop (i + 1) = vs' := by
        have := congrArg (List.drop 1) hd
        rwa [List.drop_drop, List.drop_one, List.tail_cons] at this
      have hk' : vs'.length = k := by simpa using hk
      intro v I oI C oC D m₂ h tk E' hP hn hx F N off ne
      obtain rfl : Value.str y t = v := by rw [hi] at hP; exact Option.some.inj hP
      refine test y t I oI C oC D m₂ h tk ys E' _ hn hx F N fun tk' => ?_
      cases hf : f y with
      | true =>
        simp only [if_true]
        refine elem (.str y t) I oI C oC D m₂ h tk' ys E' _ hn hx F N fun tk'' => ?_
        refine ⟨h, tk'', news, rfl, F, N, off, hSn, ?_⟩
        refine restT_filter f hSn test elem k (i + 1) vs' ws' (ys ++ [.str y t]) (zs ++ [y]) hd' hk' hv' (StrsAre.append' hy (.cons y t .nil)) fun ys' h' => fin ys' ?_
        rw [List.filter_cons, if_pos hf]
        simpa using h'
      | false =>
        simp only [Bool.false_eq_true, if_false]
        refine ⟨h, tk', news, rfl, F, N, off, hSn, ?_⟩
        refine restT_filter f hSn test elem k (i + 1) vs' ws' ys zs hd' hk' hv' hy fun ys' h' => fin ys' ?_
        rw [List.filter_cons, if_neg (by rw [hf]; decide)]
        exact h'
end
section
open LCg LCt
variable {prog : Program} {w : World} {A : Around} {s₁ : Shared} {h₀ : Heap} {L : Addr} {m : Str → Option Value} {env : Env} {news : List (Addr × Obj)} {Q : Value → Shared → Prop}
theorem comp_filter {ct elt : PySem.Expr} {x : Str} {scope : Scope} {cl : List (Str × Addr)} {l : Addr} {vs : List Value} {ws : List Str} {n : Nat} (f : Str → Bool)
    (hh : A.handled = none) (F : Fr h₀ L s₁.heap m) (N : News h₀ L s₁.heap news) (hm : (l, seqObj "list" vs.toArray n) ∈ news) (hS : StrsAre vs ws) (hz : ws.length ≤ 1000)
    (test : ∀ y t I oI C oC D m₂ h tk ys (E' : Value → Shared → Prop) (Q : Bool → Shared → Prop), NsObj oC m₂ → m₂ x = some (.str y t) → Fr h₀ L h m → News h₀ L h ((I, oI) :: (C, oC) :: (D, lst ys) :: news) → (∀ tk', Q (f y) { s₁ with heap := h, toks := tk' }) →
      wpAny (model prog w) A (isTrue ct (compEnvC scope cl C env) (eval ct (compEnvC scope cl C env))) Q E' { s₁ with heap := h, toks := tk })
    (elem : ∀ v I oI C oC D m₂ h tk ys (E' : Value → Shared → Prop) (Q : Value → Shared → Prop), NsObj oC m₂ → m₂ x = some v → Fr h₀ L h m → News h₀ L h ((I, oI) :: (C, oC) :: (D, lst ys) :: news) → (∀ tk', Q v { s₁ with heap := h, toks := tk' }) →
      wpAny (model prog w) A (eval elt (compEnvC scope cl C env)) Q E' { s₁ with heap := h, toks := tk })
    (fin : ∀ (D : Addr) (h : Heap) (tk : Nat) (ys : List Value), Fr h₀ L h m → News h₀ L h ((D, seqObj "list" ys.toArray ys.length) :: news) → Off1 D news → StrsAre ys (ws.filter f) → Q (.ref D) { s₁ with heap := h, toks := tk }) :
    CompSrcT prog w A h₀ L m env ct elt x scope cl (fun s₂ => FinE h₀ L m s₂ Q) (.ref l) s₁ := by
  have hl := hS.length
  refine CompSrcT.ledger hh F N hm (by rw [sizeLine_eq, List.size_toArray]; omega) fun g => ?_
  refine restT_filter f (.inr ⟨_, hm, rfl, _, rfl⟩) ?_ ?_ _ 0 vs ws [] [] (by simp) (by simp) hS .nil fun ys' h' D h tk F' N' o1 => ?_
  · exact fun y t I oI C oC D m₂ h tk ys E' Q a b c d e => test y t I oI C oC D m₂ h tk ys E' Q a b c d e
  · exact fun v I oI C oC D m₂ h tk ys E' Q a b c d e => elem v I oI C oC D m₂ h tk ys E' Q a b c d e
  · exact fin D h tk ys' F' N' o1 (by simpa using h')
end
theorem unr_end {h₀ : Heap} {L I : Addr} {it : Obj} {rest : (Str → Option Value) → List (Addr × Obj) → Prop} {s₁ : Shared} {h' : Heap} {tk : Nat} {m' : Str → Option Value} {news : List (Addr × Obj)} (F : Fr h₀ L h' m') (N : News h₀ L h' ((I, it) :: news))
    (l1 : ∀ p ∈ news, p.1 < I) (r : rest m' news) : UnrEnd h₀ L s₁ I it rest { s₁ with heap := h', toks := tk } :=
  UnrEnd.intro F N news (fun _ h => h) (fun p hp => Nat.ne_of_lt (l1 p hp)) r
/-- as Ct, where something of the ground's heap is asked -/
abbrev CtB (prog : Program) (w : World) (K : Frag) (p : Program) (loose : List Str) (mean : ExcName → Option Value) (mg mb : Str → Option Value) (f : Addr) (d : Nat) (pre : Heap → Prop) (news : List (Addr × Obj)) (vs : List Value) (Post : Value → List (Addr × Obj) → Prop) : Prop :=
  ∀ (dp un : Nat) (gd : Option (List Code)) (cn : Str) (cs : Scope) (a : Addr) (ccd : Value) (cl : List (Str × Addr)) (outer : List Env) (A₀ : Around) (base h₀ : Heap) (L : Addr) (m : Str → Option Value) (s : Shared) (Q E : Value → Shared → Prop),
    pre base → Below A₀ base outer h₀ → Fr h₀ L s.heap m → K.In h₀ → News h₀ L s.heap news → Top p loose mean mg mb h₀ → cs.kind = .function → dp + d < recursionLimit → un + 8 * d < cLine →
    (∀ (r : Value) (tl : List (Addr × Obj)) (h' : Heap) (tk' : Nat), Post r tl → Fr h₀ L h' m → News h₀ L h' (tl ++ news) → (∀ q ∈ news, ∀ p ∈ tl, q.1 < p.1) → Q r { s with heap := h', toks := tk' }) →
    wpAny (model prog w) (ktrTop dp un gd cn cs L a ccd cl outer) (call (.ref f) vs) Q E s
theorem CtB.use {prog : Program} {w : World} {K : Frag} {p : Program} {loose : List Str} {mean : ExcName → Option Value} {mg mb : Str → Option Value} {f : Addr} {d : Nat} {pre : Heap → Prop} {news : List (Addr × Obj)} {vs : List Value} {Post : Value → List (Addr × Obj) → Prop}
    {dp un : Nat} {gd : Option (List Code)} {cn : Str} {cs : Scope} {a : Addr} {ccd : Value} {cl : List (Str × Addr)} {outer : List Env} {A₀ : Around} {base h₀ : Heap} {L : Addr} {m : Str → Option Value} {s : Shared} {Q E : Value → Shared → Prop}
    (C : CtB prog w K p loose mean mg mb f d pre news vs Post) (hp : pre base) (B : Below A₀ base outer h₀) (F : Fr h₀ L s.heap m) (X : K.In h₀) (N : News h₀ L s.heap news) (T : Top p loose mean mg mb h₀) (hk : cs.kind = .function) (hd : dp + d < recursionLimit) (hu : un + 8 * d < cLine)
    (ret : ∀ (r : Value) (tl : List (Addr × Obj)) (h' : Heap) (tk' : Nat), Post r tl → Fr h₀ L h' m → News h₀ L h' (tl ++ news) → (∀ q ∈ news, ∀ p ∈ tl, q.1 < p.1) → Q r { s with heap := h', toks := tk' }) :
    wpAny (model prog w) (ktrTop dp un gd cn cs L a ccd cl outer) (call (.ref f) vs) Q E s := C _ _ _ _ _ _ _ _ _ _ _ _ _ _ _ _ _ hp B F X N T hk hd hu ret
theorem erase_of : ∀ {vs : List Value} {ws : List Str} {x : Str}, StrsAre vs ws → x ∈ ws →
    ∃ (j : Nat) (hj : j < vs.length), isStrOf x vs[j] = true ∧ (∀ k (hk : k < vs.length), k < j → isStrOf x vs[k] = false) ∧ StrsAre (vs.eraseIdx j) (ws.erase x)
  | _, _, x, .nil, h => nomatch h
  | _, _, x, .cons (vs := vs) (ys := ys) y t hS, h => by
    by_cases e : y = x
    · subst e
      refine ⟨0, by simp, by simp [isStrOf], fun k _ hk => absurd hk (Nat.not_lt_zero _), ?_⟩
      simpa using hS
    · have hx : x ∈ ys := by
        rcases List.mem_cons.mp h with q | q
        · exact absurd q.symm e
        · exact q
      obtain ⟨j, hj, h1, h2, h3⟩ := erase_of hS hx
      refine ⟨j + 1, by simpa using hj, by simpa using h1, fun k hk hlt => ?_, ?_⟩
      · cases k with
        | zero => simp [isStrOf, e]
        | succ k => simpa using h2 k (by simpa using hk) (by omega)
      · rw [List.eraseIdx_cons_succ, List.erase_cons_tail (by simpa using e)]
        exact .cons y t h3
section
variable {prog : Program} {w : World} {A : Around} {E : Value → Shared → Prop} {s : Shared} {h₀ : Heap} {L : Addr} {m : Str → Option Value} {all keep : List (Addr × Obj)} {l : Addr} {n : Nat} {vs : List Value} {ws : List Str} {x : Str} {t : Tok}
theorem news_keep {h' : Heap} {o' : Obj} (N : News h₀ L s.heap all) {o : Obj} (hm : (l, o) ∈ all) (hsub : ∀ p ∈ keep, p ∈ all) (hne : ∀ p ∈ keep, p.1 ≠ l) (hs : Heap.SameBut l s.heap h') (ho : h'.get? l = some o') : News h₀ L h' ((l, o') :: keep) := by
  intro p hp
  cases hp with
  | head => exact ⟨ho, (N _ hm).2⟩
  | tail _ hp => exact ⟨(hs.2 _ (hne p hp)).trans (N p (hsub p hp)).1, (N p (hsub p hp)).2⟩
theorem append_T {Q : Value → Shared → Prop} (F : Fr h₀ L s.heap m) (N : News h₀ L s.heap all) (hm : (l, seqObj "list" vs.toArray n) ∈ all) (hS : StrsAre vs ws) (hz : ws.length ≤ 1000) (hsub : ∀ p ∈ keep, p ∈ all) (hne : ∀ p ∈ keep, p.1 ≠ l)
    (h : ∀ (h' : Heap) (vs' : List Value) (n' : Nat), Fr h₀ L h' m → News h₀ L h' ((l, seqObj "list" vs'.toArray n') :: keep) → StrsAre vs' (ws ++ [x]) → Q .none { s with heap := h' }) :
    wpAny (model prog w) A (call (.builtin "list.append") [.ref l, .str x t]) Q E s := by
  have z := N _ hm
  have hl := hS.length
  refine append_at (hsz := by rw [List.size_toArray, sizeLine_eq]; omega) z.1 fun h' hs ho => ?_
  refine h h' (vs ++ [.str x t]) (n + 1) (F.change hs z.2.1 z.2.2) (news_keep N hm hsub hne hs ?_) (StrsAre.append' hS (.cons x t .nil))
  rw [ho, List.push_toArray]
theorem remove_T {Q : Value → Shared → Prop} (F : Fr h₀ L s.heap m) (N : News h₀ L s.heap all) (hm : (l, seqObj "list" vs.toArray n) ∈ all) (hS : StrsAre vs ws) (hz : ws.length ≤ 1000) (hx : x ∈ ws) (hsub : ∀ p ∈ keep, p ∈ all) (hne : ∀ p ∈ keep, p.1 ≠ l)
    (h : ∀ (h' : Heap) (vs' : List Value) (n' : Nat), Fr h₀ L h' m → News h₀ L h' ((l, seqObj "list" vs'.toArray n') :: keep) → StrsAre vs' (ws.erase x) → Q .none { s with heap := h' }) :
    wpAny (model prog w) A (call (.builtin "list.remove") [.ref l, .str x t]) Q E s := by
  have z := N _ hm
  have hl := hS.length
  obtain ⟨j, hj, h1, h2, h3⟩ := erase_of hS hx
  refine call_meets PySem.F.slot_list_remove ⟨_, z.1, rfl⟩ PySem.F.entry_list_remove (PySem.F.args_list_remove_2 _ _)
    (MeetsSeq.list_remove l vs.toArray n (.str x t) (isStrOf x) (fun y hy => eq_isStrOf x t hS y (by simpa using hy)) j (by simpa using hj) (by simpa using h1) (fun k hk hlt => by simpa using h2 k (by simpa using hk) hlt) (by rw [List.size_toArray, sizeLine_eq]; omega)) ⟨z.1, ?_⟩
  have e := get?_update_seq (a := l) z.1 (fun xs => xs.eraseIdxIfInBounds j)
  have ej : (vs.toArray.eraseIdxIfInBounds j) = (vs.eraseIdx j).toArray := by
    rw [List.eraseIdxIfInBounds_toArray]
  rw [ej] at e
  exact h _ (vs.eraseIdx j) _ (F.change (Heap.SameBut.update _ _ _) z.2.1 z.2.2) (news_keep N hm hsub hne (Heap.SameBut.update _ _ _) e) h3
theorem copy_T {Q : Value → Shared → Prop} {news : List (Addr × Obj)} (F : Fr h₀ L s.heap m) (N : News h₀ L s.heap news) (hm : (l, seqObj "list" vs.toArray n) ∈ news) (hS : StrsAre vs ws) (hz : ws.length ≤ 1000)
    (h : ∀ (D : Addr) (c : Nat) (h' : Heap), Fr h₀ L h' m → News h₀ L h' ((D, seqObj "list" vs.toArray c) :: news) → (∀ q ∈ news, q.1 < D) → Q (.ref D) { s with heap := h' }) :
    wpAny (model prog w) A (call (.type "list") [.ref l]) Q E s := by
  have hl := hS.length
  exact list_copyK F N (News.isList N hm) (fun D c h' => h D c h') (by rw [List.size_toArray, sizeLine_eq]; omega)
theorem notin_T {Q : Value → Shared → Prop} {news : List (Addr × Obj)} (N : News h₀ L s.heap news) (hm : (l, seqObj "list" vs.toArray n) ∈ news) (hS : StrsAre vs ws) (hx : x ∈ ws) (h : Q (.bool false) s) :
    wpAny (model prog w) A (compareOp .NotIn (.str x t) (.ref l)) Q E s := by
  refine notin_list_strs (News.isList N hm) hS ?_
  have : (ws.any (· == x)) = true := List.any_eq_true.mpr ⟨x, hx, by simp⟩
  rw [this]; exact h
theorem truth_T {Q : Bool → Shared → Prop} {news : List (Addr × Obj)} (N : News h₀ L s.heap news) (hm : (l, seqObj "list" vs.toArray n) ∈ news) (hS : StrsAre vs ws) (hz : ws.length ≤ 1000) (h : ∀ tk, Q (decide (ws.length ≠ 0)) { s with toks := tk }) :
    wpAny (model prog w) A (truthy (.ref l)) Q E s := by
  have hl := hS.length
  refine wpAny_truthy_list (News.isList N hm) (by rw [List.size_toArray]; omega) ?_
  have e : (!vs.toArray.isEmpty) = decide (ws.length ≠ 0) := by
    rw [← hl]
    cases vs with
    | nil => rfl
    | cons a r => simp
  rw [e]; exact h _
end
section
open PySem.SeqAt
theorem same_strs : ∀ ns ms : List Str, PySem.Spec.sameAll (ns.map PyData.str) (ms.map PyData.str) = decide (ns = ms)
  | [], [] => by simp [PySem.Spec.sameAll]
  | [], _ :: _ => by simp [PySem.Spec.sameAll]
  | _ :: _, [] => by simp [PySem.Spec.sameAll]
  | a :: r, b :: t => by
    simp only [List.map_cons, PySem.Spec.sameAll, PySem.Spec.same, same_strs r t]
    by_cases h : a = b <;> by_cases h' : r = t <;> simp [h, h']
theorem shaped_strs {ss : List Str} (h : ∀ x ∈ ss, PyData.strOk x = true) : shaped (.list (ss.map PyData.str)) = true := by
  unfold shaped
  simp only [PyData.canLay0, PyData.depth, canLayAll_strs', depthAll_strs']
  simp only [List.all_eq_true.mpr h]
  decide
variable {prog : Program} {w : World} {A : Around} {E : Value → Shared → Prop} {s : Shared} {h₀ : Heap} {L : Addr} {news : List (Addr × Obj)} {a b : Addr} {k n : Nat} {xs ys : List Value} {ns ms : List Str} {Q : Value → Shared → Prop}
theorem ne_T (N : News h₀ L s.heap news) (ha : (a, seqObj "list" xs.toArray k) ∈ news) (hb : (b, seqObj "list" ys.toArray n) ∈ news) (hi : StrsAre xs ns) (hj : StrsAre ys ns) (ok : ∀ x ∈ ns, PyData.strOk x = true) (hu : A.units + 64 < cLine) (h : Q (.bool false) s) :
    wpAny (model prog w) A (compareOp .NotEq (.ref a) (.ref b)) Q E s :=
  ne_dataH_same (reads_newData (News.isList N ha) hi.carried) (reads_newData (News.isList N hb) hj.carried) (shaped_strs ok) (shaped_strs ok) hu (SeqAt.noMix_of_shape (.list .str) rfl _ _ (list_map_has fun _ => rfl) (list_map_has fun _ => rfl))
    (by simp only [PySem.Spec.same, same_strs, decide_true, Bool.not_true]; exact h)
end
section
variable {prog : Program} {w : World} {A : Around} {E : Value → Shared → Prop} {s : Shared} {h₀ : Heap} {L : Addr} {m : Str → Option Value} {news : List (Addr × Obj)} {l K : Addr} {ok o0 : Obj} {n : Nat} {vs : List Value} {ws : List Str} {x : Str} {t : Tok}
theorem off_both (lK : ∀ q ∈ (l, o0) :: news, q.1 < K) (lD : ∀ q ∈ news, q.1 < l) : ∀ q ∈ (K, ok) :: news, q.1 ≠ l := by
  intro q hq
  cases hq with
  | head => exact Ne.symm (Nat.ne_of_lt (lK _ (.head _)))
  | tail _ hq => exact Nat.ne_of_lt (lD q hq)
theorem remove_2 {Q : Value → Shared → Prop} (F : Fr h₀ L s.heap m) (N : News h₀ L s.heap ((K, ok) :: (l, seqObj "list" vs.toArray n) :: news)) (hS : StrsAre vs ws) (hz : ws.length ≤ 1000) (hx : x ∈ ws) (lK : ∀ q ∈ (l, o0) :: news, q.1 < K) (lD : ∀ q ∈ news, q.1 < l)
    (h : ∀ (h' : Heap) (vs' : List Value) (n' : Nat), Fr h₀ L h' m → News h₀ L h' ((l, seqObj "list" vs'.toArray n') :: (K, ok) :: news) → StrsAre vs' (ws.erase x) → Q .none { s with heap := h' }) :
    wpAny (model prog w) A (call (.builtin "list.remove") [.ref l, .str x t]) Q E s :=
  remove_T (keep := (K, ok) :: news) F N (.tail _ (.head _)) hS hz hx (fun p hp => by
    cases hp with
    | head => exact .head _
    | tail _ hp => exact .tail _ (.tail _ hp)) (off_both lK lD) h
theorem remove_1 {Q : Value → Shared → Prop} (F : Fr h₀ L s.heap m) (N : News h₀ L s.heap ((l, seqObj "list" vs.toArray n) :: (K, ok) :: news)) (hS : StrsAre vs ws) (hz : ws.length ≤ 1000) (hx : x ∈ ws) (lK : ∀ q ∈ (l, o0) :: news, q.1 < K) (lD : ∀ q ∈ news, q.1 < l)
    (h : ∀ (h' : Heap) (vs' : List Value) (n' : Nat), Fr h₀ L h' m → News h₀ L h' ((l, seqObj "list" vs'.toArray n') :: (K, ok) :: news) → StrsAre vs' (ws.erase x) → Q .none { s with heap := h' }) :
    wpAny (model prog w) A (call (.builtin "list.remove") [.ref l, .str x t]) Q E s :=
  remove_T (keep := (K, ok) :: news) F N (.head _) hS hz hx (fun p hp => .tail _ hp) (off_both lK lD) h
end
/-- a turn's end under range_inv -/
def RStep (h₀ : Heap) (L : Addr) (s : Shared) (I : Addr) (it : Obj) (J : (Str → Option Value) → List (Addr × Obj) → Prop) (f : Flow) (s₂ : Shared) : Prop :=
  f = .next ∧ ∃ h' tk' m' news', s₂ = { s with heap := h', toks := tk' } ∧ Fr h₀ L h' m' ∧ News h₀ L h' ((I, it) :: news') ∧ (∀ p ∈ news', p.1 < I) ∧ J m' news'
section
variable {prog : Program} {w : World} {A : Around} {E : Value → Shared → Prop} {s : Shared} {env : Env} {h₀ : Heap} {x : Str} {body : List Stmt} {Q : Flow → Shared → Prop}
theorem range_rest (J : Nat → (Str → Option Value) → List (Addr × Obj) → Prop) {I : Addr} {a : Int} {n : Nat}
    (turn : ∀ (i : Nat) (t : Tok) (m : Str → Option Value) (news : List (Addr × Obj)) (h : Heap) (tk : Nat) (it : Obj), i < n → J i m news → (∀ p ∈ news, p.1 < I) → Fr h₀ env.locals h (fun y => if y = x then some (.int (a + (i : Int)) t) else m y) → News h₀ env.locals h ((I, it) :: news) →
      wpAny (model prog w) A (execs body env) (RStep h₀ env.locals s I it (J (i + 1))) E { s with heap := h, toks := tk })
    (done : ∀ m news h tk, J n m news → Fr h₀ env.locals h m → News h₀ env.locals h news → Q .next { s with heap := h, toks := tk }) :
    ∀ (k i : Nat) (m : Str → Option Value) (news : List (Addr × Obj)), i + k = n → J i m news → (∀ p ∈ news, p.1 < I) → RangeRest prog w A E h₀ env x body Q s I a n k i m news
  | 0, i, m, news, hk, hJ, _ => RangeRest.zero fun h tk F N => done m news h tk (by rw [← hk]; exact hJ) F N
  | k + 1, i, m, news, hk, hJ, hI => RangeRest.succ fun t h tk F N => by
    refine wpAny_mono (turn i t m news h tk _ (by omega) hJ hI F N) (fun f s₂ q => ?_) fun _ _ e => e
    obtain ⟨rfl, h', tk', m', news', rfl, F', N', hI', hJ'⟩ := q
    exact UnrEnd.intro F' N' news' (fun _ hq => hq) (fun p hp => Nat.ne_of_lt (hI' p hp)) (range_rest J turn done k (i + 1) m' news' (by omega) hJ' hI')
theorem range_inv (J : Nat → (Str → Option Value) → List (Addr × Obj) → Prop) {r : Addr} {a₀ b₀ : Int} {t₀ u₀ v₀ : Tok} {n : Nat} {m₀ : Str → Option Value} {news : List (Addr × Obj)}
    (hh : A.handled = none) (hr : IsRange s.heap r a₀ b₀ 1 t₀ u₀ v₀) (hsmall : Builtin.Range.small a₀ b₀ 1 = true) (hn : Builtin.Range.rangeSize a₀ b₀ 1 = (n : Int)) (F : Fr h₀ env.locals s.heap m₀) (N : News h₀ env.locals s.heap news) (hJ : J 0 m₀ news)
    (turn : ∀ (I : Addr) (i : Nat) (t : Tok) (m : Str → Option Value) (news : List (Addr × Obj)) (h : Heap) (tk : Nat) (it : Obj), i < n → J i m news → (∀ p ∈ news, p.1 < I) → Fr h₀ env.locals h (fun y => if y = x then some (.int (a₀ + (i : Int)) t) else m y) → News h₀ env.locals h ((I, it) :: news) →
      wpAny (model prog w) A (execs body env) (RStep h₀ env.locals s I it (J (i + 1))) E { s with heap := h, toks := tk })
    (done : ∀ m news h tk, J n m news → Fr h₀ env.locals h m → News h₀ env.locals h news → Q .next { s with heap := h, toks := tk }) :
    wpAny (model prog w) A (pyIter (.ref r)) (fun it s₂ => LoopAtV prog w A h₀ env x body Q E it s₂) E s :=
  iter_rangeUnr hh hr hsmall hn F N fun I hI => range_rest J (turn I) done n 0 m₀ news (by omega) hJ hI
end
section
variable {prog : Program} {w : World} {A : Around} {E : Value → Shared → Prop} {s : Shared} {h₀ : Heap} {L : Addr} {m : Str → Option Value} {news : List (Addr × Obj)}
theorem range_T {Q : Value → Shared → Prop} {n : Int} {t : Tok} (F : Fr h₀ L s.heap m) (N : News h₀ L s.heap news)
    (h : ∀ (r : Addr) (h' : Heap) (tk : Nat) (t₁ u₁ v₁ : Tok), IsRange h' r 0 n 1 t₁ u₁ v₁ → Fr h₀ L h' m → News h₀ L h' news → Q (.ref r) { s with heap := h', toks := tk }) :
    wpAny (model prog w) A (call (.type "range") [.int n t]) Q E s := range1_rows F N fun h' tk t₁ u₁ v₁ a b c _ => h _ h' tk t₁ u₁ v₁ a b c
end
theorem range_small {n : Int} {k : Nat} (hn : n = (k : Int)) (hk : k ≤ 1000) : Builtin.Range.small 0 n 1 = true :=
  small_one (by decide) (by decide) (by omega) (by omega)
theorem range_size {n : Int} {k : Nat} (hn : n = (k : Int)) : Builtin.Range.rangeSize 0 n 1 = (k : Int) := by
  rw [rangeSize_nat]; omega
section
open PySem.SeqAt
variable {prog : Program} {w : World} {A : Around} {E : Value → Shared → Prop} {s : Shared} {h₀ : Heap} {L : Addr} {m : Str → Option Value} {news : List (Addr × Obj)} {a b l : Addr} {k n : Nat} {vs : List Value} {ws : List Str} {x y : Str} {t u : Tok} {Q : Value → Shared → Prop}
theorem shaped_tup {x : Str} (h : PyData.strOk x = true) : shaped (.tuple [.none, .none, .str x]) = true := by
  unfold shaped
  simp [PyData.canLay0, PyData.canLayAll0, PyData.depth, PyData.depthAll, h]
theorem eq_tup_T (N : News h₀ L s.heap news) (ha : (a, seqObj "tuple" #[.none, .none, .str x t] k) ∈ news) (hb : (b, seqObj "tuple" #[.none, .none, .str y u] n) ∈ news) (e : x = y) (ok : PyData.strOk x = true) (hu : A.units + 64 < cLine) (h : Q (.bool true) s) :
    wpAny (model prog w) A (compareOp .Eq (.ref a) (.ref b)) Q E s := by
  subst e
  refine eq_dataH (reads_newDataT (ys := [.none, .none, .str x t]) (News.isTup N ha) (.cons .none (.cons .none (.cons (.str x t) .nil)))) (reads_newDataT (ys := [.none, .none, .str x u]) (News.isTup N hb) (.cons .none (.cons .none (.cons (.str x u) .nil)))) (shaped_tup ok) (shaped_tup ok) hu ?_
  have q : PyData.eqv (.tuple [.none, .none, .str x]) (.tuple [.none, .none, .str x]) = true := by simp [PyData.eqv, PyData.eqvAll]
  rw [q]; exact h
theorem ne_str_T (e : x = y) (h : Q (.bool false) s) : wpAny (model prog w) A (compareOp .NotEq (.str x t) (.str y u)) Q E s := by
  subst e
  exact ne_str (by simpa using h)
/-- an item whose place is written, of a list whose words are written -/
theorem item_C {value slice : PySem.Expr} {k : Int} {u : Tok} (N : News h₀ L s.heap news) (hm : (l, seqObj "list" vs.toArray n) ∈ news) (hS : StrsAre vs ws) (h0 : 0 ≤ k) (hz : k < 2 ^ 62) (hy : ws[k.toNat]? = some y)
    (h : ∀ t, Q (.str y t) s)
    (hs : subscripted slice false (.ref l) (.int k u) = operate [.ref l, .int k u] (getItem (.ref l) (.int k u)) := by with_unfolding_all rfl) :
    wpAny (model prog w) A (subscriptTail value slice (.ref l) (.int k u)) Q E s := by
  have hL := News.isList N hm
  obtain ⟨t, ht⟩ := hS.get k.toNat y hy
  exact tail_any hL.typeIs slot_list_getitem.lookup (wpAny_getItem_list hL h0 (by omega) (by simpa using ht) (h t)) hs
end
theorem Ct.post {prog : Program} {w : World} {K : Frag} {p : Program} {loose : List Str} {mean : ExcName → Option Value} {mg mb : Str → Option Value} {f : Addr} {d : Nat} {news : List (Addr × Obj)} {vs : List Value} {Post Post' : Value → List (Addr × Obj) → Prop}
    (C : Ct prog w K p loose mean mg mb f d news vs Post) (h : ∀ r tl, Post r tl → Post' r tl) : Ct prog w K p loose mean mg mb f d news vs Post' :=
  fun dp un gd cn cs a ccd cl outer A₀ base h₀ L m s Q E B F X N T hk hd hu ret => C dp un gd cn cs a ccd cl outer A₀ base h₀ L m s Q E B F X N T hk hd hu fun r tl h' tk' q => ret r tl h' tk' (h r tl q)
section
variable {prog : Program} {w : World} {A : Around} {E : Value → Shared → Prop} {s : Shared} {h₀ : Heap} {L : Addr} {m : Str → Option Value} {news : List (Addr × Obj)} {l : Addr} {n : Nat} {items : Array Value}
theorem sum_T {Q : Value → Shared → Prop} (hh : A.handled = none) (F : Fr h₀ L s.heap m) (N : News h₀ L s.heap news) (hm : (l, seqObj "list" items n) ∈ news) (hall : AllInts items)
    (h : ∀ (i : Int) (t : Tok) (h' : Heap) (tk : Nat), Fr h₀ L h' m → News h₀ L h' news → Q (.int i t) { s with heap := h', toks := tk }) : wpAny (model prog w) A (call (.builtin "sum") [.ref l]) Q E s := by
  obtain ⟨xs, rfl⟩ := hall.items
  exact sum_intListG hh (News.isList N hm) fun h' tk t' hk => h _ t' h' tk (F.keeps hk) (N.grown hk)
end
theorem allInts_pick {items : Array Value} (h : AllInts items) (lo hi st : Option Int) : AllInts (slicePick items lo hi st) := by
  intro v hv
  unfold slicePick at hv
  rw [List.mem_toArray, List.mem_filterMap] at hv
  obtain ⟨i, _, hi⟩ := hv
  exact h v (Array.mem_of_getElem? hi)
theorem allInts_of {vs : List Value} {ns : List Int} (h : IntsAre vs ns) : AllInts vs.toArray := fun v hv => h.all v (by simpa using hv)
section
variable {prog : Program} {w : World} {A : Around} {E : Value → Shared → Prop} {s : Shared} {h₀ : Heap} {L : Addr} {m : Str → Option Value} {news : List (Addr × Obj)} {l I S : Addr} {it os o0 : Obj} {n : Nat} {vs : List Value} {ws : List Str} {x : Str} {t : Tok}
theorem append_3 {Q : Value → Shared → Prop} (F : Fr h₀ L s.heap m) (N : News h₀ L s.heap ((S, os) :: (I, it) :: (l, seqObj "list" vs.toArray n) :: news)) (hS : StrsAre vs ws) (hz : ws.length ≤ 1000) (lI : ∀ q ∈ (l, o0) :: news, q.1 < I) (lD : ∀ q ∈ news, q.1 < l)
    (h : ∀ (h' : Heap) (vs' : List Value) (n' : Nat), Fr h₀ L h' m → News h₀ L h' ((l, seqObj "list" vs'.toArray n') :: (I, it) :: news) → StrsAre vs' (ws ++ [x]) → Q .none { s with heap := h' }) :
    wpAny (model prog w) A (call (.builtin "list.append") [.ref l, .str x t]) Q E s :=
  append_T (keep := (I, it) :: news) F N (.tail _ (.tail _ (.head _))) hS hz (fun p hp => by
    cases hp with
    | head => exact .tail _ (.head _)
    | tail _ hp => exact .tail _ (.tail _ (.tail _ hp))) (off_both lI lD) h
end
section
open LCg
variable {prog : Program} {w : World} {A : Around} {s : Shared} {h₀ : Heap} {L : Addr} {m : Str → Option Value} {env : Env}
/-- a comprehension without a test, by what holds of the list so far and of the ledger -/
theorem comp_inv {elt : PySem.Expr} {x : Str} {scope : Scope} {cl : List (Str × Addr)} {S : List (Addr × Obj) → Prop} {P : Nat → Value → Prop} {Fin : List Value → List (Addr × Obj) → Prop} {n : Nat} (J : Nat → List Value → List (Addr × Obj) → Prop)
    (turn : ∀ i v ys news I oI C oC D m₂ h tk (E' : Value → Shared → Prop), i < n → P i v → J i ys news → NsObj oC m₂ → m₂ x = some v → Fr h₀ L h m → News h₀ L h ((I, oI) :: (C, oC) :: (D, lst ys) :: news) → Off3 I C D news → ((@Ne Nat I C) ∧ (@Ne Nat I D) ∧ (@Ne Nat C D)) →
      wpAny (model prog w) A (eval elt (compEnvC scope cl C env)) (CompEnd h₀ L m { s with heap := h, toks := tk } I oI C oC D (lst ys) S (fun y news' => J (i + 1) (ys ++ [y]) news')) E' { s with heap := h, toks := tk })
    (fin : ∀ ys news, J n ys news → Fin ys news) :
    ∀ (k i : Nat) (ys : List Value) (news : List (Addr × Obj)), i + k = n → J i ys news → CompRest prog w A h₀ L m env elt x scope cl s S P Fin k i ys news
  | 0, i, ys, news, hk, hJ => CompRest.zero (fin ys news (by rw [← hk]; exact hJ))
  | k + 1, i, ys, news, hk, hJ => CompRest.succ fun v I oI C oC D m₂ h tk E' hP hn hx F N off ne => by
    refine wpAny_mono (turn i v ys news I oI C oC D m₂ h tk E' (by omega) hP hJ hn hx F N off ne) (fun y s₂ q => ?_) fun _ _ e => e
    obtain ⟨h', tk', news', rfl, F', N', off', hS', hJ'⟩ := q
    exact ⟨h', tk', news', rfl, F', N', off', hS', comp_inv J turn fin k (i + 1) (ys ++ [y]) news' (by omega) hJ'⟩
end
def RowsOk (ws : List Str) (n : Nat) (ys : List Value) (news : List (Addr × Obj)) : Prop :=
  ys.length = n ∧ ∀ j, j < n → ∃ (a : Addr) (us : List Value) (c : Nat), ys[j]? = some (.ref a) ∧ (a, seqObj "list" us.toArray c) ∈ news ∧ StrsAre us (ws.take (j + 1))
section
open LCg
variable {prog : Program} {w : World} {A : Around} {s₁ : Shared} {h₀ : Heap} {L : Addr} {m : Str → Option Value} {env : Env}
theorem rows_comp {elt : PySem.Expr} {x y : Str} {scope : Scope} {cl : List (Str × Addr)} {Q : Flow → Shared → Prop} {r : Addr} {b₀ : Int} {t u v : Tok} {base : List (Addr × Obj)} {ws : List Str}
    (hh : A.handled = none) (F : Fr h₀ L s₁.heap m) (N : News h₀ L s₁.heap base) (hr : IsRange s₁.heap r 0 b₀ 1 t u v) (hb : b₀ = (ws.length : Int)) (hl : ws.length ≤ 10)
    (turn : ∀ i t ys news I oI C oC D m₂ h tk (E' : Value → Shared → Prop) (Q' : Value → Shared → Prop), i < ws.length → (∀ p ∈ base, p ∈ news) → NsObj oC m₂ → m₂ x = some (.int (0 + (i : Int)) t) → Fr h₀ L h m → News h₀ L h ((I, oI) :: (C, oC) :: (D, lst ys) :: news) →
      (∀ (a : Addr) (c : Nat) (us : List Value) (h' : Heap) (tk' : Nat), Fr h₀ L h' m → News h₀ L h' ((a, seqObj "list" us.toArray c) :: (I, oI) :: (C, oC) :: (D, lst ys) :: news) → (∀ p ∈ (I, oI) :: (C, oC) :: (D, lst ys) :: news, p.1 < a) → StrsAre us (ws.take (i + 1)) → Q' (.ref a) { s₁ with heap := h', toks := tk' }) →
      wpAny (model prog w) A (eval elt (compEnvC scope cl C env)) Q' E' { s₁ with heap := h, toks := tk })
    (fin : ∀ (D : Addr) (h : Heap) (tk : Nat) (ys : List Value) (news : List (Addr × Obj)), Fr h₀ L h (fun z => if z = y then some (.ref D) else m z) → News h₀ L h ((D, seqObj "list" ys.toArray ys.length) :: news) → (∀ p ∈ base, p ∈ news) → RowsOk ws ws.length ys news → Q .next { s₁ with heap := h, toks := tk }) :
    CompSrc prog w A h₀ L m env elt x scope cl (fun s₂ => FinA h₀ L m s₂ y Q) (.ref r) s₁ := by
  refine CompSrc.range hh F N hr (range_small hb (by omega)) (range_size hb) (by rw [sizeLine_eq]; omega) fun g => ?_
  refine comp_inv (n := ws.length) (fun i ys news => (∀ p ∈ base, p ∈ news) ∧ RowsOk ws i ys news) ?_ ?_ ws.length 0 [] base (by omega) ⟨fun _ h => h, rfl, fun j hj => absurd hj (Nat.not_lt_zero _)⟩
  · rintro i v ys news I oI C oC D m₂ h tk E' hi ⟨t, rfl⟩ ⟨hbase, hlen, hrows⟩ hn hx F N off ne
    refine turn i t ys news I oI C oC D m₂ h tk E' _ hi hbase hn hx F N fun a c us h' tk' F' N' hlt hS => ?_
    refine ⟨h', tk', (a, seqObj "list" us.toArray c) :: news, rfl, F', ?_, ?_, trivial, fun p hp => .tail _ (hbase p hp), ?_, ?_⟩
    · intro p hp
      refine N' p ?_
      simp only [List.mem_cons] at hp ⊢
      rcases hp with h | h | h | h | h
      · exact .inr (.inl h)
      · exact .inr (.inr (.inl h))
      · exact .inr (.inr (.inr (.inl h)))
      · exact .inl h
      · exact .inr (.inr (.inr (.inr h)))
    · refine ⟨⟨?_, ?_, ?_⟩, off⟩
      · exact Ne.symm (Nat.ne_of_lt (hlt (I, oI) (.head _)))
      · exact Ne.symm (Nat.ne_of_lt (hlt (C, oC) (.tail _ (.head _))))
      · exact Ne.symm (Nat.ne_of_lt (hlt (D, lst ys) (.tail _ (.tail _ (.head _)))))
    · rw [List.length_append, hlen]; rfl
    · intro j hj
      by_cases hji : j < i
      · obtain ⟨a', us', c', h1, h2, h3⟩ := hrows j hji
        exact ⟨a', us', c', by rw [List.getElem?_append_left (by omega)]; exact h1, .tail _ h2, h3⟩
      · have hji : j = i := by omega
        subst hji
        exact ⟨a, us, c, by rw [List.getElem?_append_right (by omega), hlen, Nat.sub_self]; rfl, .head _, hS⟩
  · rintro ys news ⟨hbase, hR⟩ D h tk F' N' _
    exact fin D h tk ys news F' N' hbase hR
theorem peel_comp {elt : PySem.Expr} {x : Str} {scope : Scope} {cl : List (Str × Addr)} {Q : Value → Shared → Prop} {ax : Addr} {ys : List Value} {k : Nat} {news : List (Addr × Obj)} {ws : List Str}
    (hh : A.handled = none) (F : Fr h₀ L s₁.heap m) (N : News h₀ L s₁.heap news) (hm : (ax, seqObj "list" ys.toArray k) ∈ news) (hR : RowsOk ws ws.length ys news) (hl : ws.length ≤ 10)
    (turn : ∀ i a us c zs I oI C oC D m₂ h tk (E' : Value → Shared → Prop) (Q' : Value → Shared → Prop), i < ws.length → (a, seqObj "list" us.toArray c) ∈ news → StrsAre us (ws.take (i + 1)) → NsObj oC m₂ → m₂ x = some (.ref a) → Fr h₀ L h m → News h₀ L h ((I, oI) :: (C, oC) :: (D, lst zs) :: news) →
      (∀ (h' : Heap) (tk' : Nat), Fr h₀ L h' m → News h₀ L h' ((I, oI) :: (C, oC) :: (D, lst zs) :: news) → Q' (.bool true) { s₁ with heap := h', toks := tk' }) →
      wpAny (model prog w) A (eval elt (compEnvC scope cl C env)) Q' E' { s₁ with heap := h, toks := tk })
    (fin : ∀ (D : Addr) (h : Heap) (tk : Nat) (zs : List Value) (c : Nat), Fr h₀ L h m → News h₀ L h ((D, seqObj "list" zs.toArray c) :: news) → zs = List.replicate ws.length (.bool true) → Q (.ref D) { s₁ with heap := h, toks := tk }) :
    CompSrc prog w A h₀ L m env elt x scope cl (fun s₂ => FinE h₀ L m s₂ Q) (.ref ax) s₁ := by
  obtain ⟨hlen, hrows⟩ := hR
  refine CompSrc.ledger hh F N hm (by rw [sizeLine_eq, List.size_toArray]; omega) fun g => ?_
  have hsz : ys.toArray.size = ws.length := by rw [List.size_toArray]; exact hlen
  rw [hsz]
  refine comp_inv (n := ws.length) (fun i zs nw => nw = news ∧ zs = List.replicate i (.bool true)) ?_ ?_ ws.length 0 [] news (by omega) ⟨rfl, rfl⟩
  · rintro i v zs nw I oI C oC D m₂ h tk E' hi hP ⟨rfl, rfl⟩ hn hx F N off ne
    obtain ⟨a, us, c, h1, h2, h3⟩ := hrows i hi
    have hv : v = .ref a := by
      have : ys[i]? = some v := by simpa using hP
      rw [h1] at this; exact (Option.some.inj this).symm
    subst hv
    refine turn i a us c _ I oI C oC D m₂ h tk E' _ hi h2 h3 hn hx F N fun h' tk' F' N' => ?_
    exact ⟨h', tk', nw, rfl, F', N', off, .inr ⟨_, hm, rfl, _, rfl⟩, rfl, by rw [List.replicate_succ']⟩
  · rintro zs nw ⟨rfl, rfl⟩ D h tk F' N' _
    exact fin D h tk _ _ F' N' rfl
end
theorem bools_true : ∀ n : Nat, LSm.BoolsAre (List.replicate n (.bool true)) (List.replicate n true)
  | 0 => .nil
  | n + 1 => .cons _ (bools_true n)
section
variable {prog : Program} {w : World} {A : Around} {E : Value → Shared → Prop} {s : Shared} {h₀ : Heap} {L : Addr} {m : Str → Option Value} {news : List (Addr × Obj)} {l : Addr} {c n : Nat} {vs zs : List Value} {ws : List Str} {Q : Value → Shared → Prop}
theorem all_T (hh : A.handled = none) (F : Fr h₀ L s.heap m) (N : News h₀ L s.heap news) (hm : (l, seqObj "list" zs.toArray c) ∈ news) (hz : zs = List.replicate n (.bool true))
    (h : ∀ (h' : Heap) (tk : Nat), Fr h₀ L h' m → News h₀ L h' news → Q (.bool true) { s with heap := h', toks := tk }) : wpAny (model prog w) A (call (.builtin "all") [.ref l]) Q E s := by
  subst hz
  refine LSm.all_bools F N hh (News.isList N hm) (bools_true n) fun h' tk F' N' => ?_
  have e : (List.replicate n true).all id = true := by simp
  rw [e]; exact h h' tk F' N'
theorem pick_take (vs : List Value) {y : Int} {k : Nat} (hy : y = (k : Int)) (hk : k ≤ vs.length) : kms_pick vs none (some y) = vs.take k := by
  subst hy
  have e1 : kms_lo none vs.length = 0 := rfl
  have e2 : kms_hi (some (k : Int)) vs.length = k := by
    show (if (k : Int) < 0 then vs.length - (-(k : Int)).toNat else min (k : Int).toNat vs.length) = k
    rw [if_neg (by omega)]; omega
  unfold kms_pick
  rw [e1, e2, List.drop_zero, Nat.sub_zero]
/-- the first words of a row -/
theorem slice_T {value slice : PySem.Expr} {vu : Value} {y : Int} {t : Tok} {k : Nat} (F : Fr h₀ L s.heap m) (N : News h₀ L s.heap news) (hm : (l, seqObj "list" vs.toArray n) ∈ news) (hS : StrsAre vs ws) (hvu : vu = .int y t) (hy : y = (k : Int)) (hk : k ≤ ws.length) (hz : ws.length ≤ 1000)
    (h : ∀ (D : Addr) (c : Nat) (us : List Value) (h' : Heap), Fr h₀ L h' m → News h₀ L h' ((D, seqObj "list" us.toArray c) :: news) → (∀ p ∈ news, p.1 < D) → StrsAre us (ws.take k) → Q (.ref D) { s with heap := h' })
    (hs : subscripted slice false (.ref l) (.ref s.heap.objs.size) = operate [.ref s.heap.objs.size, .ref l] (getItem (.ref l) (.ref s.heap.objs.size))) (ht : ∀ r, letTemporaryGo value (.ref l) r = pure ()) :
    wpAny (model prog w) A (subscriptTail value slice (.ref l) (.ref s.heap.objs.size)) Q E { s with heap := s.heap.push { cls := .type "slice", data := .fields #[.none, vu, .none] } } := by
  subst hvu
  have hl := hS.length
  exact kms_slice_lit F N (News.isList N hm) .none (.int y t) (pick_take vs hy (by omega)) (fun D h' F' N' l1 => h D 0 (vs.take k) h' F' N' l1 (hS.take' k)) hs ht (by rw [List.size_toArray, sizeLine_eq]; omega)
end
theorem place_is (i : Nat) : (0 + (i : Int)) + 1 = ((i + 1 : Nat) : Int) := by omega
theorem RowsOk.more {ws : List Str} {n : Nat} {ys : List Value} {news : List (Addr × Obj)} {p : Addr × Obj} (h : RowsOk ws n ys news) : RowsOk ws n ys (p :: news) :=
  ⟨h.1, fun j hj => let ⟨a, us, c, h1, h2, h3⟩ := h.2 j hj; ⟨a, us, c, h1, .tail _ h2, h3⟩⟩
local macro_rules | `(tactic| walk_at "mine:mem") => `(tactic| first | assumption | exact List.mem_cons_self | (refine List.mem_cons_of_mem _ ?_; walk_at "mine:mem"))
local macro_rules | `(tactic| walk_at "mine:om") => `(tactic| ((try simp only [beq_iff_eq, bne_iff_ne, beq_eq_false_iff_ne, decide_eq_true_eq, decide_eq_false_iff_not, Bool.and_eq_true, Bool.or_eq_true, Bool.not_eq_true', Bool.not_eq_false', fdiv2, fmod2, fdiv4, fmod4, fdiv8, fmod8, srt_len, List.length_cons, List.length_nil] at *); omega))
local macro_rules | `(tactic| walk_at "mine:sub") => `(tactic| (intro q9 hq9; (try simp only [List.mem_cons, List.mem_append, List.not_mem_nil, List.append_nil, List.nil_append, List.cons_append, false_or, or_false] at hq9 ⊢); first | assumption | (repeat (first | exact Or.inl (by assumption) | exact Or.inr (by assumption) | refine Or.inr ?_)) | grind))
local macro_rules | `(tactic| walk_at "mine:lt") => `(tactic| first | assumption | (refine allLt_mem _ ?_; first | assumption | exact And.right (by assumption) | exact And.right (And.right (by assumption))))
-- a def's end that hands on nothing that it has made
local macro_rules | `(tactic| walk_at "mine:end") => `(tactic| (rename ∀ (_ : Value) (_ : List (Addr × Obj)) (_ : Heap) (_ : Nat), _ → Fr _ _ _ _ → _ => hret9; refine' ct_ret (tl := []) hret9 ?e1 ?e2 ?e3 lt_nil; (case e2 => k_asm); (case e3 => first | k_asm | (refine' cb_drop ?cbN ?cbS; (case cbN => assumption); (case cbS => walk_at "mine:sub")))))
-- a def's end that hands on one thing
local macro_rules | `(tactic| walk_at "mine:end1") => `(tactic| (rename ∀ (_ : Value) (_ : List (Addr × Obj)) (_ : Heap) (_ : Nat), _ → Fr _ _ _ _ → _ => hret9; refine' ct_ret1 hret9 ?e1 ?e2 ?e3 ?e4 ?e5 ?_; (case e1 => k_asm); (case e2 => k_asm); (case e3 => walk_at "mine:mem"); (case e4 => walk_at "mine:sub"); (case e5 => walk_at "mine:lt")))
local macro_rules | `(tactic| walk_at "mine:enter") => `(tactic| (unfold Ct; intros; refine wpAny_call ?_; k_dflt cell_enter))
local macro_rules | `(tactic| walk_at "ite") => `(tactic| (k_here; k_dflt (first | (refine ite_pos (by walk_at "mine:om") ?_; walk_say "MINE PRUNED") | (refine ite_neg (by walk_at "mine:om") ?_; walk_say "MINE PRUNED"))))
local macro_rules | `(tactic| walk_at "call builtin:sorted") => `(tactic| (k_here; (with_reducible show wpAny _ _ (call (Value.builtin _) [Value.ref _]) _ _ _); k_dflt (refine' sorted_T ?F ?N ?m ?S ?z ?_; (case F => k_asm); (case N => k_asm); (case m => walk_at "mine:mem"); (case S => assumption); (case z => omega); k_whole); intro a' h' vs' e' F' N' l1 S'))
local macro_rules | `(tactic| walk_at "call builtin:len") => `(tactic| (k_here; (with_reducible show wpAny _ _ (call (Value.builtin _) [Value.ref _]) _ _ _); k_dflt (refine' len_T ?N ?m ?S ?k ?z ?_; (case N => k_asm); (case m => walk_at "mine:mem"); (case S => assumption); (case k => first | exact srt_len _ | exact rfl); (case z => first | omega | walk_at "mine:om"); k_whole); intro t9 tk9))
local macro_rules | `(tactic| walk_at "subscriptTail") => `(tactic| (k_here; (with_reducible show wpAny _ _ (subscriptTail _ _ (Value.ref _) (Value.int _ _)) _ _ _); k_dflt (refine' item_T ?N ?m ?S ?a ?b ?z ?_ ?hs; (case hs => with_unfolding_all rfl); (case N => k_asm); (case m => walk_at "mine:mem"); (case S => assumption); (case a => walk_at "mine:om"); (case b => walk_at "mine:om"); (case z => walk_at "mine:om"); k_whole); intro t9))
local macro_rules | `(tactic| walk_at "mine:enterC") => `(tactic| (unfold Ct; intros; refine wpAny_call ?_; k_dflt (refine' code_defC ?k1 ?k2 ?k3 ?k4 ?k5 ?kA ?kF ?kK ?k6 ?k7 ?k8 ?k9 ?kB ?kD ?_ ?c2 ?c3 ?c4; (case kA => exact rfl); (case kF => exact rfl); (case kK => assumption); (case k1 => k_asm); (case k2 => k_asm); (case k3 => k_asm); (case k4 => k_asm); (case k5 => k_asm); (case k6 => k_is); (case k7 => k_is); (case k8 => ktr_room); (case k9 => exact BindsTo.of_eq rfl); (case kB => exact rfl); (case kD => decide +kernel); (case c2 => exact rfl); (case c3 => exact rfl); (case c4 => exact rfl); k_whole; intro g' L' h' tk' cells' FG' F' N' Y' B' X' T' l1; k_cells Y'; (try simp only [List.cons_append, List.nil_append] at N'); (try dsimp only); (try k_lift B'); (try k_fold))))
local macro_rules | `(tactic| walk_at "call builtin:str.split") => `(tactic| (k_here; (try dsimp only [List.cons_append, List.nil_append]); k_dflt (first
  | (refine' split2_T ?F ?N ?x ?z0 ?w ?z ?_; (case F => k_asm); (case N => k_asm); (case x => walk_at "mine:text"); (case z0 => assumption); (case w => assumption); (case z => walk_at "mine:short"); k_whole)
  | (refine' split1_T ?F ?N ?x ?z0 ?w ?z ?_; (case F => k_asm); (case N => k_asm); (case x => walk_at "mine:text"); (case z0 => assumption); (case w => assumption); (case z => walk_at "mine:short"); k_whole)); intro a' h' vs' tk' F' N' l1 S'))
section
theorem ct_low {w : World} {p : Program} {loose : List Str} {mean : ExcName → Option Value} {mg mb : Str → Option Value} {news : List (Addr × Obj)} {l : Addr} {n : Nat} {vs : List Value} {ws : List Str}
    (hm : (l, seqObj "list" vs.toArray n) ∈ news) (hS : StrsAre vs ws) (h0 : 0 < ws.length) (h1 : ws.length ≤ 10) :
    Ct Challenge.rw_nb0041_01.row.prog w (Mine41.hd.heap_39 w.params) p loose mean mg mb 41 1 news [.ref l] (fun r tl => tl = [] ∧ ∃ t, r = .str ((srt ws).getD ((ws.length - 1) / 2) default) t) := by
  k_fill
  w_on
  walk_at "mine:enter"
  k_steps
  all_goals (walk_at "mine:end")
  all_goals (refine ⟨rfl, _, congrArg (Value.str · _) ?_⟩; congr 1; walk_at "mine:om")
theorem ct_high {w : World} {p : Program} {loose : List Str} {mean : ExcName → Option Value} {mg mb : Str → Option Value} {news : List (Addr × Obj)} {l : Addr} {n : Nat} {vs : List Value} {ws : List Str}
    (hm : (l, seqObj "list" vs.toArray n) ∈ news) (hS : StrsAre vs ws) (h0 : 0 < ws.length) (h1 : ws.length ≤ 10) :
    Ct Challenge.rw_nb0041_01.row.prog w (Mine41.hd.heap_39 w.params) p loose mean mg mb 48 1 news [.ref l] (fun r tl => tl = [] ∧ ∃ t, r = .str ((srt ws).getD (ws.length / 2) default) t) := by
  k_fill
  w_on
  walk_at "mine:enter"
  k_steps
  all_goals (walk_at "mine:end")
  all_goals (refine ⟨rfl, _, congrArg (Value.str · _) ?_⟩; congr 1; walk_at "mine:om")
end
section
local macro_rules | `(tactic| walk_at "mine:text") => `(tactic| exact rfl)
local macro_rules | `(tactic| walk_at "mine:short") => `(tactic| assumption)
/-- what decode_rfc2231 hands back for words laid with apostrophes between -/
def DecOut (W : List Str) (tx : Tok) (r : Value) (tl : List (Addr × Obj)) : Prop :=
  ∃ a, r = .ref a ∧ ((W.length ≤ 2 ∧ tl = [(a, seqObj "tuple" #[.none, .none, .str (Str.join tck W) tx] 0)]) ∨ (3 ≤ W.length ∧ ∃ vs : List Value, tl = [(a, seqObj "list" vs.toArray 0)] ∧ StrsAre vs (cut3 W)))
theorem ct_decode {w : World} {p : Program} {loose : List Str} {mean : ExcName → Option Value} {mg mb : Str → Option Value} {news : List (Addr × Obj)} {W : List Str} {tx : Tok}
    (h0 : W ≠ []) (hw : ∀ p ∈ W, Free p) (hz : (Str.join tck W).length ≤ 1000) :
    Ct Challenge.rw_nb0041_01.row.prog w (Mine41.hd.heap_39 w.params) p loose mean mg mb 21 1 news [.str (Str.join tck W) tx] (DecOut W tx) := by
  k_fill
  w_on
  have hc := cut3_len W
  walk_at "mine:enter"
  k_steps
  · walk_at "mine:end1"
    exact ⟨_, rfl, .inl ⟨by omega, rfl⟩⟩
  · walk_at "mine:end1"
    exact ⟨_, rfl, .inr ⟨by omega, _, rfl, by assumption⟩⟩
theorem cut3_more {A B : Str} : ∀ {W : List Str}, W ≠ [] → cut3 (A :: B :: W) = [A, B, Str.join tck W]
  | [], h => absurd rfl h
  | _ :: _, _ => rfl
theorem ct_decode3 {w : World} {p : Program} {loose : List Str} {mean : ExcName → Option Value} {mg mb : Str → Option Value} {news : List (Addr × Obj)} {A B : Str} {W : List Str} {tx : Tok}
    (hw : ∀ p ∈ A :: B :: W, Free p) (h0 : W ≠ []) (hz : (Str.join tck (A :: B :: W)).length ≤ 1000) :
    Ct Challenge.rw_nb0041_01.row.prog w (Mine41.hd.heap_39 w.params) p loose mean mg mb 21 1 news [.str (Str.join tck (A :: B :: W)) tx] (fun r tl => ∃ (a : Addr) (vs : List Value), r = .ref a ∧ tl = [(a, seqObj "list" vs.toArray 0)] ∧ StrsAre vs [A, B, Str.join tck W]) := by
  refine Ct.post (ct_decode (by simp) hw hz) fun r tl h => ?_
  obtain ⟨a, e, ⟨hl, _⟩ | ⟨_, vs, e2, hS⟩⟩ := h
  · cases W with
    | nil => exact absurd rfl h0
    | cons c r => simp at hl
  · rw [cut3_more h0] at hS
    exact ⟨a, vs, e, e2, hS⟩
theorem ct_decode2 {w : World} {p : Program} {loose : List Str} {mean : ExcName → Option Value} {mg mb : Str → Option Value} {news : List (Addr × Obj)} {W : List Str} {tx : Tok}
    (hw : ∀ p ∈ W, Free p) (h0 : W ≠ []) (h2 : W.length ≤ 2) (hz : (Str.join tck W).length ≤ 1000) :
    Ct Challenge.rw_nb0041_01.row.prog w (Mine41.hd.heap_39 w.params) p loose mean mg mb 21 1 news [.str (Str.join tck W) tx] (fun r tl => ∃ a : Addr, r = .ref a ∧ tl = [(a, seqObj "tuple" #[.none, .none, .str (Str.join tck W) tx] 0)]) := by
  refine Ct.post (ct_decode h0 hw hz) fun r tl h => ?_
  obtain ⟨a, e, ⟨_, e2⟩ | ⟨h3, _⟩⟩ := h
  · exact ⟨a, e, e2⟩
  · omega
end
section
local macro_rules | `(tactic| walk_at "CompSrcT") => `(tactic| refine halt ?_)
local macro_rules | `(tactic| walk_at "eval ListComp") => `(tactic| (k_here; k_dflt (refine LCt.ListComp_T (F₀ := by k_asm) (by with_unfolding_all rfl) (by decide) (by rfl) (by decide) (by rfl) ?_)))
theorem ct_at {w : World} {p : Program} {loose : List Str} {mean : ExcName → Option Value} {mg mb : Str → Option Value} {news : List (Addr × Obj)} {l : Addr} {n : Nat} {vs : List Value} {ws : List Str} {x : Str} {i : Int} {tx ti : Tok}
    (hm : (l, seqObj "list" vs.toArray n) ∈ news) (hS : StrsAre vs ws) (h1 : ws.length ≤ 10) (ha : AtPl ws x i) :
    Ct Challenge.rw_nb0041_01.row.prog w (Mine41.hd.heap_39 w.params) p loose mean mg mb 67 1 news [.str x tx, .ref l, .int i ti] (fun r tl => tl = [] ∧ r = .bool true) := by
  k_fill
  w_on
  obtain ⟨ha1, ha2⟩ := ha
  have hf1 := List.length_filter_le (fun y : Str => decide (y.cps.toList < x.cps.toList)) ws
  have hf2 := List.length_filter_le (fun y : Str => y == x) ws
  walk_at "mine:enterC"
  k_steps
  with_reducible refine Halt.out ?_
  refine' comp_filter (fun y => decide (y.cps.toList < x.cps.toList)) ?hh ?F ?N ?m hS ?z ?test ?elem ?fin
  case hh => exact rfl
  case F => k_asm
  case N => k_asm
  case m => walk_at "mine:mem"
  case z => omega
  case test =>
    intro y t I oI C oC D m₂ h tk ys E' Q hn hx F N hq
    (try k_fold)
    k_steps
    exact hq _
  case elem =>
    intro v I oI C oC D m₂ h tk ys E' Q hn hx F N hq
    (try k_fold)
    k_steps
    exact hq _
  intro D h tk ys F' N' o1 S'
  k_steps
  with_reducible refine Halt.out ?_
  refine' comp_filter (fun y => y == x) ?hh2 ?F2 ?N2 ?m2 hS ?z2 ?test2 ?elem2 ?fin2
  case hh2 => exact rfl
  case F2 => k_asm
  case N2 => k_asm
  case m2 => walk_at "mine:mem"
  case z2 => omega
  case test2 =>
    intro y t I oI C oC D m₂ h tk ys E' Q hn hx F N hq
    (try k_fold)
    k_steps
    exact hq _
  case elem2 =>
    intro v I oI C oC D m₂ h tk ys E' Q hn hx F N hq
    (try k_fold)
    k_steps
    exact hq _
  intro D h tk ys F' N' o1 S'
  k_steps
  walk_at "mine:end"
  exact ⟨rfl, congrArg Value.bool (decide_eq_true (by omega))⟩
end
section
local macro_rules | `(tactic| walk_at "UnrEnd") => `(tactic| (k_here; k_dflt (refine' unr_end ?F ?N ?l ?_; (case F => k_asm); (case N => assumption); (case l => assumption))))
theorem ct_word {w : World} {p : Program} {loose : List Str} {mean : ExcName → Option Value} {mg mb : Str → Option Value} {news : List (Addr × Obj)} {i : Int} {ti : Tok} :
    Ct Challenge.rw_nb0041_01.row.prog w (Mine41.hd.heap_39 w.params) p loose mean mg mb 55 1 news [.int i ti] (fun r tl => tl = [] ∧ ∃ x t, r = .str x t ∧ okS x) := by
  k_fill
  w_on
  walk_at "mine:enter"
  k_with "call type:range" => k_rangeSizes
  k_steps
  all_goals walk_at "mine:end"
  · exact ⟨rfl, _, _, rfl, free_empty, by rw [len_empty]; omega, ok_empty⟩
  · exact ⟨rfl, _, _, rfl, free_append free_empty (free_item signs_free _), by simp only [Str.length_append, len_empty, len_item1]; omega, ok_append ok_empty (ok_item ok_signs _)⟩
  · exact ⟨rfl, _, _, rfl, free_append (free_append free_empty (free_item signs_free _)) (free_item signs_free _), by simp only [Str.length_append, len_empty, len_item1]; omega, ok_append (ok_append ok_empty (ok_item ok_signs _)) (ok_item ok_signs _)⟩
  · exact ⟨rfl, _, _, rfl, free_append (free_append (free_append free_empty (free_item signs_free _)) (free_item signs_free _)) (free_item signs_free _), by simp only [Str.length_append, len_empty, len_item1]; omega, ok_append (ok_append (ok_append ok_empty (ok_item ok_signs _)) (ok_item ok_signs _)) (ok_item ok_signs _)⟩
end
local macro_rules | `(tactic| walk_at "call type:list") => `(tactic| (k_here; (with_reducible show wpAny _ _ (call (Value.type _) [Value.ref _]) _ _ _); k_dflt (refine' copy_T ?F ?N ?m ?S ?z ?_; (case F => k_asm); (case N => k_asm); (case m => walk_at "mine:mem"); (case S => assumption); (case z => omega); k_whole); intro D' c' h' F' N' l1))
local macro_rules | `(tactic| walk_at "call ref") => `(tactic| (k_here; (with_reducible show wpAny _ _ (call (Value.ref 41) _) _ _ _); k_dflt (refine' Ct.use (ct_low ?m ?S ?a ?b) ?k1 ?k2 ?k3 ?k4 ?k5 ?kK ?kd ?ku ?_; (case k1 => k_asm); (case k2 => k_asm); (case k3 => k_asm); (case k4 => k_asm); (case k5 => k_asm); (case m => walk_at "mine:mem"); (case S => assumption); (case a => first | omega | walk_at "mine:om"); (case b => first | omega | walk_at "mine:om"); (case kK => first | exact rfl | assumption); (case kd => ktr_room); (case ku => ktr_units); k_whole); intro r9 tl9 h9 tk9 P9 F9 N9 l9; obtain ⟨e9, t9, q9⟩ := P9; subst e9; subst q9; clear l9; simp only [List.nil_append] at N9; (try dsimp only); (try k_fold)))
local macro_rules | `(tactic| walk_at "call ref") => `(tactic| (k_here; (with_reducible show wpAny _ _ (call (Value.ref 48) _) _ _ _); k_dflt (refine' Ct.use (ct_high ?m ?S ?a ?b) ?k1 ?k2 ?k3 ?k4 ?k5 ?kK ?kd ?ku ?_; (case k1 => k_asm); (case k2 => k_asm); (case k3 => k_asm); (case k4 => k_asm); (case k5 => k_asm); (case m => walk_at "mine:mem"); (case S => assumption); (case a => first | omega | walk_at "mine:om"); (case b => first | omega | walk_at "mine:om"); (case kK => first | exact rfl | assumption); (case kd => ktr_room); (case ku => ktr_units); k_whole); intro r9 tl9 h9 tk9 P9 F9 N9 l9; obtain ⟨e9, t9, q9⟩ := P9; subst e9; subst q9; clear l9; simp only [List.nil_append] at N9; (try dsimp only); (try k_fold)))
local macro_rules | `(tactic| walk_at "compareOp NotEq ref ref") => `(tactic| (k_here; (with_reducible show wpAny _ _ (compareOp CmpOp.NotEq (Value.ref _) (Value.ref _)) _ _ _); k_dflt (refine' ne_T ?N ?m ?m2 ?S ?S2 ?ok ?u ?_; (case N => k_asm); (case m => walk_at "mine:mem"); (case m2 => walk_at "mine:mem"); (case S => assumption); (case S2 => assumption); (case ok => assumption); (case u => ktr_units); k_whole)))
local macro_rules | `(tactic| walk_at "compareOp NotIn str ref") => `(tactic| (k_here; k_dflt (refine' notin_T ?N ?m ?S ?x ?_; (case N => k_asm); (case m => walk_at "mine:mem"); (case S => assumption); (case x => assumption); k_whole)))
local macro_rules | `(tactic| walk_at "truthy ref") => `(tactic| (k_here; k_dflt (refine' truth_T ?N ?m ?S ?z ?_; (case N => k_asm); (case m => walk_at "mine:mem"); (case S => assumption); (case z => omega); k_whole); intro tk9))
local macro_rules | `(tactic| walk_at "call builtin:list.remove") => `(tactic| (k_here; (try dsimp only [List.cons_append, List.nil_append]); k_dflt (refine' remove_2 ?F ?N ?S ?z ?x ?lK ?lD ?_; (case F => k_asm); (case N => k_asm); (case S => assumption); (case z => omega); (case x => assumption); (case lK => assumption); (case lD => assumption); k_whole); intro h' vs' n' F' N' S'))
local macro_rules | `(tactic| walk_at "call builtin:list.remove") => `(tactic| (k_here; (try dsimp only [List.cons_append, List.nil_append]); k_dflt (refine' remove_1 ?F ?N ?S ?z ?x ?lK ?lD ?_; (case F => k_asm); (case N => k_asm); (case S => assumption); (case z => omega); (case x => assumption); (case lK => assumption); (case lD => assumption); k_whole); intro h' vs' n' F' N' S'))
local macro_rules | `(tactic| walk_at "exec While") => `(tactic| refine halt ?_)
local macro_rules | `(tactic| walk_at "exec While Name cons nil") => `(tactic| refine halt ?_)
local macro_rules | `(tactic| walk_at "binaryOp Add str str") => `(tactic| (k_here; (with_reducible show wpAny _ _ (binaryOp Operator.Add (Value.str _ _) (Value.str _ _)) _ _ _); k_dflt (refine' PyProof.Rows.add_str ?_ ?z; (case z => (rw [sizeLine_eq]; (try simp only [Str.length_append, tick_len, len_empty]); omega))); intro t9 tk9))
section
theorem pin3 {m : Str → Option Value} {a b c : Str} {va vb vc : Value} (ha : m a = some va) (hb : m b = some vb) (hc : m c = some vc) : m = fun y => if y = a then some va else if y = b then some vb else if y = c then some vc else m y := by
  funext y
  by_cases h1 : y = a
  · subst h1; simp [ha]
  · by_cases h2 : y = b
    · subst h2; simp [h1, hb]
    · by_cases h3 : y = c
      · subst h3; simp [h1, h2, hc]
      · simp [h1, h2, h3]
def LaidJ (l D : Addr) (news : List (Addr × Obj)) (I : List Str → Str → Prop) (n : Nat) (m₁ : Str → Option Value) (news₁ : List (Addr × Obj)) : Prop :=
  ∃ (vs : List Value) (c : Nat) (b : List Str) (x : Str) (tx : Tok), m₁ (Str.ofString "bag") = some (.ref D) ∧ m₁ (Str.ofString "text") = some (.str x tx) ∧ m₁ (Str.ofString "words") = some (.ref l) ∧ news₁ = (D, seqObj "list" vs.toArray c) :: news ∧ StrsAre vs b ∧ b.length = n ∧ I b x
section
variable {prog : Program} {w : World} {A : Around} {E : Value → Shared → Prop} {Q : Flow → Shared → Prop} {s : Shared} {env : Env} {h₀ : Heap} {L : Addr}
theorem laid_while {test : PySem.Expr} {body : List Stmt} {pos : Pos} {m : Str → Option Value} {news : List (Addr × Obj)} {D l : Addr} {vs : List Value} {c : Nat} {ws : List Str} {x : Str} {tx : Tok} (I : List Str → Str → Prop)
    (F : Fr h₀ L s.heap m) (N : News h₀ L s.heap ((D, seqObj "list" vs.toArray c) :: news)) (lD : ∀ q ∈ news, q.1 < D) (e1 : m (Str.ofString "bag") = some (.ref D)) (e2 : m (Str.ofString "text") = some (.str x tx)) (e3 : m (Str.ofString "words") = some (.ref l)) (hS : StrsAre vs ws) (hI : I ws x)
    (turn : ∀ (u : Str → Option Value) (vs : List Value) (c : Nat) (b : List Str) (x : Str) (tx : Tok) (h₁ : Heap) (tk₁ : Nat), (∀ q ∈ news, q.1 < D) →
      Fr h₀ L h₁ (fun y => if y = Str.ofString "bag" then some (.ref D) else if y = Str.ofString "text" then some (.str x tx) else if y = Str.ofString "words" then some (.ref l) else u y) → News h₀ L h₁ ((D, seqObj "list" vs.toArray c) :: news) → StrsAre vs b → I b x →
      wpAny (model prog w) A (isTrue test env (eval test env)) (fun b₁ s₂ =>
        if b₁ = true then wpAny (model prog w) A (execs body env) (WhileStep h₀ L s (LaidJ l D news I) b.length) E s₂ else Q .next s₂) E { s with heap := h₁, toks := tk₁ })
    (hE : PassesOwn (model prog w) A env E := by passes_own) :
    wpAny (model prog w) A (exec (.While test body [] pos) env) Q E s := by
  refine While_inv (LaidJ l D news I) (n₀ := ws.length) F N ⟨vs, c, ws, x, tx, e1, e2, e3, rfl, hS, rfl, hI⟩ ?_ hE
  rintro n₁ m₁ news₁ h₁ tk₁ F₁ N₁ ⟨vs₁, c₁, b, x, tx, e1, e2, e3, rfl, S₁, rfl, hI⟩
  rw [pin3 e1 e2 e3] at F₁
  exact turn m₁ vs₁ c₁ b x tx h₁ tk₁ lD F₁ N₁ S₁ hI
end
theorem laid_step {h₀ h' : Heap} {L l D K : Addr} {s : Shared} {m : Str → Option Value} {news : List (Addr × Obj)} {ok : Obj} {vs : List Value} {c tk n : Nat} {b : List Str} {x : Str} {tx : Tok} {I : List Str → Str → Prop}
    (F : Fr h₀ L h' m) (N : News h₀ L h' ((D, seqObj "list" vs.toArray c) :: (K, ok) :: news)) (e1 : m (Str.ofString "bag") = some (.ref D)) (e2 : m (Str.ofString "text") = some (.str x tx)) (e3 : m (Str.ofString "words") = some (.ref l)) (hS : StrsAre vs b) (hn : b.length < n) (hI : I b x) :
    WhileStep h₀ L s (LaidJ l D news I) n .next { s with heap := h', toks := tk } :=
  WhileStep.intro F (fun p hp => by
    cases hp with
    | head => exact N _ (.head _)
    | tail _ hp => exact N _ (.tail _ (.tail _ hp))) hn ⟨vs, c, b, x, tx, e1, e2, e3, rfl, hS, rfl, hI⟩
local macro_rules | `(tactic| walk_at "mine:step") => `(tactic| (refine' laid_step ?F ?N ?e1 ?e2 ?e3 ?S ?n ?_; (case F => k_asm); (case N => k_asm); (case e1 => exact rfl); (case e2 => exact rfl); (case e3 => exact rfl); (case S => assumption); (case n => omega)))
theorem ct_laid {w : World} {p : Program} {loose : List Str} {mean : ExcName → Option Value} {mg mb : Str → Option Value} {news : List (Addr × Obj)} {l : Addr} {n : Nat} {vs : List Value} {ws : List Str}
    (hm : (l, seqObj "list" vs.toArray n) ∈ news) (hS : StrsAre vs ws) (h0 : 0 < ws.length) (h1 : ws.length ≤ 10) (hok : okW ws) :
    Ct Challenge.rw_nb0041_01.row.prog w (Mine41.hd.heap_39 w.params) p loose mean mg mb 74 20 news [.ref l] (fun r tl => tl = [] ∧ ∃ t, r = .str (Str.join tck (suf (srt ws) ws.length (ws.length / 2))) t) := by
  k_fill
  w_on
  walk_at "mine:enter"
  k_steps
  with_reducible refine Halt.out ?_
  refine' laid_while (LaidI ws) ?F ?N ?lD ?e1 ?e2 ?e3 ?S ?J ?turn
  case F => k_asm
  case N => k_asm
  case lD => assumption
  case e1 => exact rfl
  case e2 => exact rfl
  case e3 => exact rfl
  case S => exact hS
  case J => exact laid_start ws
  intro u vs₁ c₁ b x tx h₁ tk₁ lD F₁ N₁ S₁ hI
  obtain ⟨hb1, hb2⟩ := laid_len hI
  have okb : ∀ x ∈ b, PyData.strOk x = true := fun y hy => (hok y (laid_mem hI y hy)).2.2
  rcases Nat.eq_zero_or_pos b.length with hz | hz
  · k_steps
    walk_at "mine:end"
    exact ⟨rfl, _, congrArg (Value.str · _) (laid_end hI hz)⟩
  have hlow : (srt b).getD ((b.length - 1) / 2) default ∈ b := getD_mem (by omega)
  have hhigh : (srt b).getD (b.length / 2) default ∈ b := getD_mem (by omega)
  have hle := List.length_erase_of_mem hlow
  rcases Nat.mod_two_eq_zero_or_one b.length with hp | hp
  · have hh2 := high_mem hz hp
    have hle2 := List.length_erase_of_mem hh2
    have hlow3 := (hok _ (laid_mem hI _ hlow)).2.1
    have hhigh3 := (hok _ (laid_mem hI _ hhigh)).2.1
    have hx3 := laid_short hI h0 h1 hok hp
    k_steps
    all_goals walk_at "mine:step"
    all_goals (refine laid_even hI hz hp ?_)
    all_goals (rw [← tick_is])
    all_goals first | (rw [if_pos (by omega)]) | (rw [if_neg (by omega)])
  · k_steps
    walk_at "mine:step"
    exact laid_odd hI hp
end
local macro_rules | `(tactic| walk_at "call ref") => `(tactic| (k_here; (with_reducible show wpAny _ _ (call (Value.ref 67) _) _ _ _); k_dflt (refine' Ct.use (ct_at ?m ?S ?b ?pl) ?k1 ?k2 ?k3 ?k4 ?k5 ?kK ?kd ?ku ?_; (case k1 => k_asm); (case k2 => k_asm); (case k3 => k_asm); (case k4 => k_asm); (case k5 => k_asm); (case m => walk_at "mine:mem"); (case S => assumption); (case b => omega); (case pl => assumption); (case kK => first | exact rfl | assumption); (case kd => ktr_room); (case ku => ktr_units); k_whole); intro r9 tl9 h9 tk9 P9 F9 N9 l9; obtain ⟨e9, q9⟩ := P9; subst e9; subst q9; clear l9; simp only [List.nil_append] at N9; (try dsimp only); (try k_fold)))
local macro_rules | `(tactic| walk_at "call ref") => `(tactic| (k_here; (with_reducible show wpAny _ _ (call (Value.ref 21) _) _ _ _); k_dflt (refine' Ct.use (ct_decode3 ?w ?z0 ?z) ?k1 ?k2 ?k3 ?k4 ?k5 ?kK ?kd ?ku ?_; (case k1 => k_asm); (case k2 => k_asm); (case k3 => k_asm); (case k4 => k_asm); (case k5 => k_asm); (case w => assumption); (case z0 => assumption); (case z => assumption); (case kK => first | exact rfl | assumption); (case kd => ktr_room); (case ku => ktr_units); k_whole); intro r9 tl9 h9 tk9 P9 F9 N9 l9; obtain ⟨a9, vs9, q9, e9, S9⟩ := P9; subst e9; subst q9; clear l9; simp only [List.cons_append, List.nil_append] at N9; (try dsimp only); (try k_fold)))
local macro_rules | `(tactic| walk_at "call ref") => `(tactic| (k_here; (with_reducible show wpAny _ _ (call (Value.ref 21) _) _ _ _); k_dflt (refine' Ct.use (ct_decode2 ?w ?z0 ?z2 ?z) ?k1 ?k2 ?k3 ?k4 ?k5 ?kK ?kd ?ku ?_; (case k1 => k_asm); (case k2 => k_asm); (case k3 => k_asm); (case k4 => k_asm); (case k5 => k_asm); (case w => assumption); (case z0 => assumption); (case z2 => assumption); (case z => assumption); (case kK => first | exact rfl | assumption); (case kd => ktr_room); (case ku => ktr_units); k_whole); intro r9 tl9 h9 tk9 P9 F9 N9 l9; obtain ⟨a9, q9, e9⟩ := P9; subst e9; subst q9; clear l9; simp only [List.cons_append, List.nil_append] at N9; (try dsimp only); (try k_fold)))
local macro_rules | `(tactic| walk_at "pyIter ref") => `(tactic| refine halt ?_)
local macro_rules | `(tactic| walk_at "compareOp NotEq str str") => `(tactic| (k_here; k_dflt (refine ne_str_T (by assumption) ?_)))
local macro_rules | `(tactic| walk_at "compareOp Eq ref ref") => `(tactic| (k_here; k_dflt (refine' eq_tup_T ?N ?m ?m2 ?e ?ok ?u ?_; (case N => k_asm); (case m => walk_at "mine:mem"); (case m2 => walk_at "mine:mem"); (case e => assumption); (case ok => assumption); (case u => ktr_units); k_whole)))
local macro_rules | `(tactic| walk_at "subscriptTail") => `(tactic| (k_here; (with_reducible show wpAny _ _ (subscriptTail _ _ (Value.ref _) (Value.int _ _)) _ _ _); k_dflt (refine' item_C ?N ?m ?S ?a ?b ?y ?_ ?hs; (case hs => with_unfolding_all rfl); (case N => k_asm); (case m => walk_at "mine:mem"); (case S => assumption); (case a => decide); (case b => decide); (case y => exact rfl); k_whole); intro t9))
local macro_rules | `(tactic| walk_at "call type:range") => `(tactic| (k_here; (with_reducible show wpAny _ _ (call (Value.type _) [Value.int _ _]) _ _ _); k_dflt (refine' range_T ?F ?N ?_; (case F => k_asm); (case N => k_asm); k_whole); intro r9 h' tk9 t7 u7 v7 R' F' N'))
section
local macro_rules | `(tactic| walk_at "mine:text") => `(tactic| exact rfl)
local macro_rules | `(tactic| walk_at "mine:short") => `(tactic| assumption)
theorem pin5 {m : Str → Option Value} {a b c d e : Str} {va vb vc vd ve : Value} (ha : m a = some va) (hb : m b = some vb) (hc : m c = some vc) (hd : m d = some vd) (he : m e = some ve) :
    m = fun y => if y = a then some va else if y = b then some vb else if y = c then some vc else if y = d then some vd else if y = e then some ve else m y := by
  funext y
  by_cases h1 : y = a
  · subst h1; simp [ha]
  · by_cases h2 : y = b
    · subst h2; simp [h1, hb]
    · by_cases h3 : y = c
      · subst h3; simp [h1, h2, hc]
      · by_cases h4 : y = d
        · subst h4; simp [h1, h2, h3, hd]
        · by_cases h5 : y = e
          · subst h5; simp [h1, h2, h3, h4, he]
          · simp [h1, h2, h3, h4, h5]
def PeelJ (l : Addr) (news : List (Addr × Obj)) (ws : List Str) (i : Nat) (m : Str → Option Value) (news₁ : List (Addr × Obj)) : Prop :=
  news₁ = news ∧ ∃ ts t1 t2 t3, m (Str.ofString "words") = some (.ref l) ∧ m (Str.ofString "size") = some (.int (ws.length : Int) ts) ∧ m (Str.ofString "low") = some (.str ((srt ws).getD ((ws.length - 1) / 2) default) t1) ∧
    m (Str.ofString "high") = some (.str ((srt ws).getD (ws.length / 2) default) t2) ∧ m (Str.ofString "left") = some (.str (Str.join tck (suf (srt ws) ws.length (ws.length / 2 - i))) t3)
/-- the names that the turns read -/
def peelM (l : Addr) (ws : List Str) (i : Nat) (ts t1 t2 t3 : Tok) (u : Str → Option Value) : Str → Option Value :=
  fun y => if y = Str.ofString "words" then some (.ref l) else if y = Str.ofString "size" then some (.int (ws.length : Int) ts) else if y = Str.ofString "low" then some (.str ((srt ws).getD ((ws.length - 1) / 2) default) t1) else
    if y = Str.ofString "high" then some (.str ((srt ws).getD (ws.length / 2) default) t2) else if y = Str.ofString "left" then some (.str (Str.join tck (suf (srt ws) ws.length (ws.length / 2 - i))) t3) else u y
section
variable {prog : Program} {w : World} {A : Around} {E : Value → Shared → Prop} {s : Shared} {env : Env} {h₀ : Heap} {x : Str} {body : List Stmt} {Q : Flow → Shared → Prop}
theorem peel_loop {l : Addr} {ws : List Str} {r : Addr} {b₀ : Int} {t₀ u₀ v₀ : Tok} {m₀ : Str → Option Value} {news : List (Addr × Obj)} {ts t1 t2 t3 : Tok}
    (hh : A.handled = none) (hr : IsRange s.heap r 0 b₀ 1 t₀ u₀ v₀) (hb : b₀ = ((ws.length : Int) - 1).fdiv 2) (h0 : 0 < ws.length) (h1 : ws.length ≤ 10) (F : Fr h₀ env.locals s.heap m₀) (N : News h₀ env.locals s.heap news)
    (e1 : m₀ (Str.ofString "words") = some (.ref l)) (e2 : m₀ (Str.ofString "size") = some (.int (ws.length : Int) ts)) (e3 : m₀ (Str.ofString "low") = some (.str ((srt ws).getD ((ws.length - 1) / 2) default) t1))
    (e4 : m₀ (Str.ofString "high") = some (.str ((srt ws).getD (ws.length / 2) default) t2)) (e5 : m₀ (Str.ofString "left") = some (.str (Str.join tck (suf (srt ws) ws.length (ws.length / 2))) t3))
    (turn : ∀ (I : Addr) (i : Nat) (t : Tok) (u : Str → Option Value) (ts t1 t2 t3 : Tok) (h : Heap) (tk : Nat) (it : Obj), i < (ws.length - 1) / 2 → (∀ p ∈ news, p.1 < I) → Fr h₀ env.locals h (fun y => if y = x then some (.int (0 + (i : Int)) t) else peelM l ws i ts t1 t2 t3 u y) → News h₀ env.locals h ((I, it) :: news) →
      wpAny (model prog w) A (execs body env) (RStep h₀ env.locals s I it (PeelJ l news ws (i + 1))) E { s with heap := h, toks := tk })
    (done : ∀ (u : Str → Option Value) (ts t1 t2 t3 : Tok) (h : Heap) (tk : Nat), Fr h₀ env.locals h (peelM l ws ((ws.length - 1) / 2) ts t1 t2 t3 u) → News h₀ env.locals h news → Q .next { s with heap := h, toks := tk }) :
    wpAny (model prog w) A (pyIter (.ref r)) (fun it s₂ => LoopAtV prog w A h₀ env x body Q E it s₂) E s := by
  have hb' : b₀ = (((ws.length - 1) / 2 : Nat) : Int) := by rw [hb, fdiv2]; omega
  refine range_inv (PeelJ l news ws) hh hr (range_small hb' (by omega)) (range_size hb') F N ⟨rfl, ts, t1, t2, t3, e1, e2, e3, e4, by rw [Nat.sub_zero]; exact e5⟩ ?_ ?_
  · rintro I i t m news₁ h tk it hi ⟨rfl, ts, t1, t2, t3, e1, e2, e3, e4, e5⟩ hI F N
    rw [pin5 e1 e2 e3 e4 e5] at F
    exact turn I i t m ts t1 t2 t3 h tk it hi hI F N
  · rintro m news₁ h tk ⟨rfl, ts, t1, t2, t3, e1, e2, e3, e4, e5⟩ F N
    rw [pin5 e1 e2 e3 e4 e5] at F
    exact done m ts t1 t2 t3 h tk F N
end
theorem peel_step {h₀ h' : Heap} {L l I : Addr} {it : Obj} {s : Shared} {m : Str → Option Value} {news all : List (Addr × Obj)} {ws : List Str} {i tk : Nat} {ts t1 t2 t3 : Tok}
    (F : Fr h₀ L h' m) (N : News h₀ L h' all) (hsub : ∀ p ∈ (I, it) :: news, p ∈ all) (hI : ∀ p ∈ news, p.1 < I)
    (e1 : m (Str.ofString "words") = some (.ref l)) (e2 : m (Str.ofString "size") = some (.int (ws.length : Int) ts)) (e3 : m (Str.ofString "low") = some (.str ((srt ws).getD ((ws.length - 1) / 2) default) t1))
    (e4 : m (Str.ofString "high") = some (.str ((srt ws).getD (ws.length / 2) default) t2)) (e5 : m (Str.ofString "left") = some (.str (Str.join tck (suf (srt ws) ws.length (ws.length / 2 - (i + 1)))) t3)) :
    RStep h₀ L s I it (PeelJ l news ws (i + 1)) .next { s with heap := h', toks := tk } :=
  ⟨rfl, h', tk, m, news, rfl, F, cb_drop N hsub, hI, rfl, ts, t1, t2, t3, e1, e2, e3, e4, e5⟩
theorem ct_peeled {w : World} {p : Program} {loose : List Str} {mean : ExcName → Option Value} {mg mb : Str → Option Value} {news : List (Addr × Obj)} {l : Addr} {n : Nat} {vs : List Value} {ws : List Str} {tx : Tok}
    (hm : (l, seqObj "list" vs.toArray n) ∈ news) (hS : StrsAre vs ws) (h0 : 0 < ws.length) (h1 : ws.length ≤ 10) (hok : okW ws) :
    Ct Challenge.rw_nb0041_01.row.prog w (Mine41.hd.heap_39 w.params) p loose mean mg mb 81 20 news [.str (Str.join tck (suf (srt ws) ws.length (ws.length / 2))) tx, .ref l] (fun r tl => tl = [] ∧ r = .bool true) := by
  k_fill
  w_on
  have hatl : AtPl ws ((srt ws).getD ((ws.length - 1) / 2) default) (((ws.length : Int) - 1).fdiv 2) := at_of (by omega) (by rw [fdiv2]; omega)
  have hath : AtPl ws ((srt ws).getD (ws.length / 2) default) ((ws.length : Int).fdiv 2) := at_of (by omega) (by rw [fdiv2]; omega)
  walk_at "mine:enter"
  k_steps
  with_reducible refine Halt.out ?_
  refine' peel_loop ?hh ?R ?b h0 h1 ?F ?N ?e1 ?e2 ?e3 ?e4 ?e5 ?turn ?done
  case hh => exact rfl
  case R => assumption
  case b => exact rfl
  case F => k_asm
  case N => k_asm
  case e1 => exact rfl
  case e2 => exact rfl
  case e3 => exact rfl
  case e4 => exact rfl
  case e5 => exact rfl
  case turn =>
    intro I i t u ts t1 t2 t3 h tk it hi hI F₁ N₁
    unfold peelM at F₁
    have hW0 : suf (srt ws) ws.length (ws.length / 2 - (i + 1)) ≠ [] := fun e => by
      have := suf_len (srt ws) ws.length (ws.length / 2 - (i + 1))
      rw [e, List.length_nil] at this; omega
    have hWl : (suf (srt ws) ws.length (ws.length / 2 - (i + 1))).length = ws.length - 2 - 2 * i := by rw [suf_len]; omega
    have hWf := suf_free h0 hok (j := ws.length / 2 - i) (by omega)
    have hWf' := suf_free h0 hok (j := ws.length / 2 - (i + 1)) (by omega)
    have hWz := suf_short h0 h1 hok (j := ws.length / 2 - i) (by omega)
    have hWz' := suf_short h0 h1 hok (j := ws.length / 2 - (i + 1)) (by omega)
    have hlw := low_suf h0 (j := ws.length / 2 - (i + 1)) (by omega) (by omega)
    have hhw := high_suf h0 (j := ws.length / 2 - (i + 1)) (by omega) (by omega)
    have hat1 : AtPl ws ((srt ws).getD i default) (0 + (i : Int)) := at_of (by omega) (by omega)
    have hat2 : AtPl ws ((srt ws).getD (ws.length - 1 - i) default) ((ws.length : Int) - 1 - (0 + (i : Int))) := at_of (by omega) (by omega)
    rw [suf_at hi] at F₁ hWf hWz
    k_steps
    refine' peel_step ?F9 ?N9 ?s9 ?I9 ?d1 ?d2 ?d3 ?d4 ?d5
    case F9 => k_asm
    case N9 => k_asm
    case s9 => walk_at "mine:sub"
    case I9 => exact hI
    case d1 => exact rfl
    case d2 => exact rfl
    case d3 => exact rfl
    case d4 => exact rfl
    case d5 => exact rfl
  case done =>
    intro u ts t1 t2 t3 h tk F₁ N₁
    unfold peelM at F₁
    have hWf := suf_free h0 hok (j := ws.length / 2 - (ws.length - 1) / 2) (by omega)
    have hWz := suf_short h0 h1 hok (j := ws.length / 2 - (ws.length - 1) / 2) (by omega)
    have hWo := suf_ok h0 hok (j := ws.length / 2 - (ws.length - 1) / 2) (by omega)
    have hWl : (suf (srt ws) ws.length (ws.length / 2 - (ws.length - 1) / 2)).length ≤ 2 := by rw [suf_len]; omega
    have hW0 : suf (srt ws) ws.length (ws.length / 2 - (ws.length - 1) / 2) ≠ [] := fun e => by
      have := suf_len (srt ws) ws.length (ws.length / 2 - (ws.length - 1) / 2)
      rw [e, List.length_nil] at this; omega
    have hWe := suf_end h0
    have hl3 := (hok _ (getD_mem (b := ws) (i := (ws.length - 1) / 2) (by omega))).2.1
    have hh3 := (hok _ (getD_mem (b := ws) (i := ws.length / 2) (by omega))).2.1
    rw [← tick_is] at hWe
    rcases Nat.mod_two_eq_zero_or_one ws.length with hp | hp
    · rw [if_neg (by omega)] at hWe
      rw [tick_is] at hWe
      k_steps
      walk_at "mine:end"
      exact ⟨rfl, rfl⟩
    · rw [if_pos hp] at hWe
      k_steps
      walk_at "mine:end"
      exact ⟨rfl, rfl⟩
end
section
theorem pin2 {m : Str → Option Value} {a b : Str} {va vb : Value} (ha : m a = some va) (hb : m b = some vb) : m = fun y => if y = a then some va else if y = b then some vb else m y := by
  funext y
  by_cases h1 : y = a
  · subst h1; simp [ha]
  · by_cases h2 : y = b
    · subst h2; simp [h1, hb]
    · simp [h1, h2]
def WordsJ (l D : Addr) (news : List (Addr × Obj)) (i : Nat) (m : Str → Option Value) (news₁ : List (Addr × Obj)) : Prop :=
  ∃ (vs : List Value) (c : Nat) (xs : List Str), m (Str.ofString "words") = some (.ref D) ∧ m (Str.ofString "script") = some (.ref l) ∧ news₁ = (D, seqObj "list" vs.toArray c) :: news ∧ StrsAre vs xs ∧ okW xs ∧ xs.length = 5 + i
section
variable {prog : Program} {w : World} {A : Around} {E : Value → Shared → Prop} {s : Shared} {env : Env} {h₀ : Heap} {x : Str} {body : List Stmt} {Q : Flow → Shared → Prop}
theorem words_loop {l D : Addr} {r : Addr} {b₀ : Int} {t₀ u₀ v₀ : Tok} {m₀ : Str → Option Value} {news : List (Addr × Obj)} {vs : List Value} {c k : Nat} {xs : List Str}
    (hh : A.handled = none) (hr : IsRange s.heap r 0 b₀ 1 t₀ u₀ v₀) (hb : b₀ = (k : Int)) (hk : k ≤ 5) (F : Fr h₀ env.locals s.heap m₀) (N : News h₀ env.locals s.heap ((D, seqObj "list" vs.toArray c) :: news)) (lD : ∀ p ∈ news, p.1 < D)
    (e1 : m₀ (Str.ofString "words") = some (.ref D)) (e2 : m₀ (Str.ofString "script") = some (.ref l)) (hS : StrsAre vs xs) (hok : okW xs) (hl : xs.length = 5)
    (turn : ∀ (I : Addr) (i : Nat) (t : Tok) (u : Str → Option Value) (vs : List Value) (c : Nat) (xs : List Str) (h : Heap) (tk : Nat) (it : Obj), i < 5 → (∀ p ∈ (D, seqObj "list" vs.toArray c) :: news, p.1 < I) → (∀ p ∈ news, p.1 < D) → StrsAre vs xs → okW xs → xs.length = 5 + i →
      Fr h₀ env.locals h (fun y => if y = x then some (.int (0 + (i : Int)) t) else if y = Str.ofString "words" then some (.ref D) else if y = Str.ofString "script" then some (.ref l) else u y) → News h₀ env.locals h ((I, it) :: (D, seqObj "list" vs.toArray c) :: news) →
      wpAny (model prog w) A (execs body env) (RStep h₀ env.locals s I it (WordsJ l D news (i + 1))) E { s with heap := h, toks := tk })
    (done : ∀ (u : Str → Option Value) (vs : List Value) (c : Nat) (xs : List Str) (h : Heap) (tk : Nat), StrsAre vs xs → okW xs → xs.length = 5 + k → Fr h₀ env.locals h (fun y => if y = Str.ofString "words" then some (.ref D) else if y = Str.ofString "script" then some (.ref l) else u y) →
      News h₀ env.locals h ((D, seqObj "list" vs.toArray c) :: news) → Q .next { s with heap := h, toks := tk }) :
    wpAny (model prog w) A (pyIter (.ref r)) (fun it s₂ => LoopAtV prog w A h₀ env x body Q E it s₂) E s := by
  refine range_inv (WordsJ l D news) hh hr (range_small hb (by omega)) (range_size hb) F N ⟨vs, c, xs, e1, e2, rfl, hS, hok, by omega⟩ ?_ ?_
  · rintro I i t m news₁ h tk it hi ⟨vs, c, xs, e1, e2, rfl, hS, hok, hl⟩ hI F N
    rw [pin2 e1 e2] at F
    exact turn I i t m vs c xs h tk it (by omega) hI lD hS hok hl F N
  · rintro m news₁ h tk ⟨vs, c, xs, e1, e2, rfl, hS, hok, hl⟩ F N
    rw [pin2 e1 e2] at F
    exact done m vs c xs h tk hS hok hl F N
end
local macro_rules | `(tactic| walk_at "call builtin:sum") => `(tactic| (k_here; k_dflt (refine' sum_T ?hh ?F ?N ?m ?I ?_; (case hh => exact rfl); (case F => k_asm); (case N => k_asm); (case m => first | exact List.mem_cons_self | walk_at "mine:mem"); (case I => exact allInts_pick (allInts_of (by assumption)) _ _ _); k_whole); intro i9 t9 h' tk9 F' N'))
local macro_rules | `(tactic| walk_at "call ref") => `(tactic| (k_here; (with_reducible show wpAny _ _ (call (Value.ref 55) _) _ _ _); k_dflt (refine' Ct.use ct_word ?k1 ?k2 ?k3 ?k4 ?k5 ?kK ?kd ?ku ?_; (case k1 => k_asm); (case k2 => k_asm); (case k3 => k_asm); (case k4 => k_asm); (case k5 => k_asm); (case kK => first | exact rfl | assumption); (case kd => ktr_room); (case ku => ktr_units); k_whole); intro r9 tl9 h9 tk9 P9 F9 N9 l9; obtain ⟨e9, x9, t9, q9, ok9⟩ := P9; subst e9; subst q9; clear l9; simp only [List.nil_append] at N9; (try dsimp only); (try k_fold)))
local macro_rules | `(tactic| walk_at "call builtin:list.append") => `(tactic| (k_here; (try dsimp only [List.cons_append, List.nil_append]); k_dflt (refine' append_3 ?F ?N ?S ?z ?lI ?lD ?_; (case F => k_asm); (case N => k_asm); (case S => assumption); (case z => omega); (case lI => assumption); (case lD => assumption); k_whole); intro h' vs' n' F' N' S'))
theorem words_step {h₀ h' : Heap} {L l D I : Addr} {it o0 : Obj} {s : Shared} {m : Str → Option Value} {news : List (Addr × Obj)} {vs : List Value} {xs : List Str} {x : Str} {c i tk : Nat}
    (F : Fr h₀ L h' m) (N : News h₀ L h' ((D, seqObj "list" vs.toArray c) :: (I, it) :: news)) (hI : ∀ p ∈ (D, o0) :: news, p.1 < I) (hS : StrsAre vs (xs ++ [x])) (ok : okW xs) (okx : okS x) (hl : xs.length = 5 + i)
    (e1 : m (Str.ofString "words") = some (.ref D)) (e2 : m (Str.ofString "script") = some (.ref l)) :
    RStep h₀ L s I it (WordsJ l D news (i + 1)) .next { s with heap := h', toks := tk } :=
  ⟨rfl, h', tk, m, (D, seqObj "list" vs.toArray c) :: news, rfl, F, (fun p hp => by
    cases hp with
    | head => exact N _ (.tail _ (.head _))
    | tail _ hp => cases hp with
      | head => exact N _ (.head _)
      | tail _ hp => exact N _ (.tail _ (.tail _ hp))), (fun p hp => by
    cases hp with
    | head => exact hI (D, o0) (.head _)
    | tail _ hp => exact hI p (.tail _ hp)), vs, c, xs ++ [x], e1, e2, rfl, hS, okW_snoc ok okx, by rw [List.length_append, List.length_singleton]; omega⟩
theorem ct_words {w : World} {p : Program} {loose : List Str} {mean : ExcName → Option Value} {mg mb : Str → Option Value} {news : List (Addr × Obj)} {l : Addr} {vs : List Value} {ns : List Int} :
    CtB Challenge.rw_nb0041_01.row.prog w (Mine41.hd.heap_39 w.params) p loose mean mg mb 62 2 (fun base => base.IsList l vs.toArray ∧ IntsAre vs ns ∧ ns.length ≤ 63) news [.ref l]
      (fun r tl => ∃ (a : Addr) (c : Nat) (us : List Value) (ws : List Str), r = .ref a ∧ tl = [(a, seqObj "list" us.toArray c)] ∧ StrsAre us ws ∧ okW ws ∧ 5 ≤ ws.length ∧ ws.length ≤ 10) := by
  k_fill
  w_on
  unfold CtB
  intro dp un gd cn cs a ccd cl outer A₀ base h₀ L m s Q E pre B F X N T hk hd hu hret
  obtain ⟨hl, hi, hn⟩ := pre
  refine wpAny_call ?_
  k_dflt cell_enter
  k_steps
  with_reducible refine Halt.out ?_
  refine' words_loop (k := min ns.length 5) ?wh ?wR ?wb ?wk ?wF ?wN ?wlD ?we1 ?we2 ?wS ?wok ?wl ?wturn ?wdone
  case wh => exact rfl
  case wR => assumption
  case wb => split <;> omega
  case wk => omega
  case wF => k_asm
  case wN => k_asm
  case wlD => walk_at "mine:lt"
  case we1 => exact rfl
  case we2 => exact rfl
  case wS => exact .cons _ _ (.cons _ _ (.cons _ _ (.cons _ _ (.cons _ _ .nil))))
  case wok => exact okW_five
  case wl => exact rfl
  case wturn =>
    intro I i t u vs₁ c₁ xs h₁ tk₁ it hi5 hI lD S₁ ok₁ hl₁ F₁ N₁
    k_steps
    refine' words_step ?vF ?vN ?vI ?vS ?vok ?vox ?vl ?v1 ?v2
    case vF => k_asm
    case vN => k_asm
    case vI => exact hI
    case vS => assumption
    case vok => exact ok₁
    case vox => assumption
    case vl => exact hl₁
    case v1 => exact rfl
    case v2 => exact rfl
  case wdone =>
    intro u vs₁ c₁ xs h₁ tk₁ S₁ ok₁ hl₁ F₁ N₁
    k_steps
    walk_at "mine:end1"
    exact ⟨_, _, _, _, rfl, rfl, S₁, ok₁, by omega, by omega⟩
end
section
local macro_rules | `(tactic| walk_at "call ref") => `(tactic| (k_here; (with_reducible show wpAny _ _ (call (Value.ref 62) _) _ _ _); k_dflt (refine' CtB.use ct_words ?kp ?k1 ?k2 ?k3 ?k4 ?k5 ?kK ?kd ?ku ?_; (case k1 => k_asm); (case k2 => k_asm); (case k3 => k_asm); (case k4 => k_asm); (case k5 => k_asm); (case kp => exact ⟨by assumption, by assumption, by omega⟩); (case kK => first | exact rfl | assumption); (case kd => first | decide | ktr_room); (case ku => first | decide | ktr_units); k_whole); intro r9 tl9 h9 tk9 P9 F9 N9 l9; obtain ⟨a9, c9, us9, ws9, q9, e9, S9, ok9, hl9, hu9⟩ := P9; subst e9; subst q9; simp only [List.cons_append, List.nil_append] at N9; (try dsimp only); (try k_fold)))
local macro_rules | `(tactic| walk_at "CompSrc") => `(tactic| refine halt ?_)
local macro_rules | `(tactic| walk_at "exec Assign cons ListComp") => `(tactic| (k_here; k_dflt (refine LCg.Assign_ListComp_U (F₀ := by k_asm) (by rfl) (by with_unfolding_all rfl) (by with_unfolding_all rfl) (by decide) (by rfl) (by decide) (by rfl) (by rfl) (by rfl) ?_)))
local macro_rules | `(tactic| walk_at "eval ListComp") => `(tactic| (k_here; k_dflt (refine LCg.ListComp_U (F₀ := by k_asm) (by with_unfolding_all rfl) (by decide) (by rfl) (by decide) (by rfl) ?_)))
local macro_rules | `(tactic| walk_at "subscriptTail Name Slice ref ref") => `(tactic| (k_here; (with_reducible show wpAny _ _ (subscriptTail _ (PySem.Expr.Slice _ _ none _) (Value.ref _) (Value.ref _)) _ _ _); k_dflt (refine' slice_T ?F ?N ?m ?S ?v ?y ?k ?z ?_ ?hs ?t; (case F => k_asm); (case N => k_asm); (case m => walk_at "mine:mem"); (case S => assumption); (case v => exact rfl); (case y => walk_at "mine:place"); (case k => omega); (case z => omega); (case hs => with_unfolding_all rfl); (case t => kmk_pure)); intro D' c' us' h' F' N' l1 S'))
local macro_rules | `(tactic| walk_at "call builtin:all") => `(tactic| (k_here; k_dflt (refine' all_T ?hh ?F ?N ?m ?z ?_; (case hh => exact rfl); (case F => k_asm); (case N => k_asm); (case m => walk_at "mine:mem"); (case z => assumption); k_whole); intro h' tk9 F' N'))
local macro_rules | `(tactic| walk_at "mine:memR") => `(tactic| with_reducible (first | assumption | exact List.mem_cons_self | (refine List.mem_cons_of_mem _ ?_; walk_at "mine:memR")))
local macro_rules | `(tactic| walk_at "eval Name") => `(tactic| (k_here; (with_reducible show wpAny _ _ (eval (Expr.Name (Str.ofString "words") _) (compEnvC _ _ _ _)) _ _ _); k_dflt (refine' lcf_cell ?N ?c ?m ?d ?_ ?a ?b; (case a => rfl); (case b => rfl); (case N => k_asm); (case c => rfl); (case m => walk_at "mine:memR"); (case d => assumption); k_whole)))
local macro_rules | `(tactic| walk_at "mine:place") => `(tactic| exact place_is _)
local macro_rules | `(tactic| walk_at "call ref") => `(tactic| (k_here; (with_reducible show wpAny _ _ (call (Value.ref 74) _) _ _ _); k_dflt (refine' Ct.use (ct_laid ?m ?S ?z0 ?z1 ?ok) ?k1 ?k2 ?k3 ?k4 ?k5 ?kK ?kd ?ku ?_; (case k1 => k_asm); (case k2 => k_asm); (case k3 => k_asm); (case k4 => k_asm); (case k5 => k_asm); (case m => walk_at "mine:memR"); (case S => assumption); (case z0 => assumption); (case z1 => assumption); (case ok => assumption); (case kK => first | exact rfl | assumption); (case kd => first | decide | ktr_room); (case ku => first | decide | ktr_units); k_whole); intro r9 tl9 h9 tk9 P9 F9 N9 l9; obtain ⟨e9, t9, q9⟩ := P9; subst e9; subst q9; clear l9; simp only [List.nil_append] at N9; (try dsimp only); (try k_fold)))
local macro_rules | `(tactic| walk_at "call ref") => `(tactic| (k_here; (with_reducible show wpAny _ _ (call (Value.ref 81) _) _ _ _); k_dflt (refine' Ct.use (ct_peeled ?m ?S ?z0 ?z1 ?ok) ?k1 ?k2 ?k3 ?k4 ?k5 ?kK ?kd ?ku ?_; (case k1 => k_asm); (case k2 => k_asm); (case k3 => k_asm); (case k4 => k_asm); (case k5 => k_asm); (case m => walk_at "mine:memR"); (case S => assumption); (case z0 => assumption); (case z1 => assumption); (case ok => assumption); (case kK => first | exact rfl | assumption); (case kd => first | decide | ktr_room); (case ku => first | decide | ktr_units); k_whole); intro r9 tl9 h9 tk9 P9 F9 N9 l9; obtain ⟨e9, q9⟩ := P9; subst e9; subst q9; clear l9; simp only [List.nil_append] at N9; (try dsimp only); (try k_fold)))
theorem main : PySem.Challenge.rw_nb0041_01.Holds := Mine41.hd (by
  w_on
  k_go0
  all_goals try k_fold
  k_steps
  with_reducible refine Halt.out ?_
  rename StrsAre _ _ => S9
  rename okW _ => ok9
  rename List Str => ws9
  refine' rows_comp ?rh ?rF ?rN ?rR ?rb ?rl ?rturn ?rfin
  case rh => exact rfl
  case rF => k_asm
  case rN => k_asm
  case rR => assumption
  case rb => exact rfl
  case rl => assumption
  case rturn =>
    intro i t ys news I oI C oC D m₂ h tk E' Q' hi hbase hn hx F₁ N₁ hq
    have hb1 := hbase _ (.head _)
    have hb2 := hbase _ (.tail _ (.head _))
    (try k_fold)
    k_steps
    refine' hq _ _ _ _ _ ?qF ?qN ?ql ?qS
    case qF => k_asm
    case qN => k_asm
    case ql => assumption
    case qS => assumption
  case rfin =>
    intro D h tk ys news F₁ N₁ hbase hR
    k_steps
    with_reducible refine Halt.out ?_
    refine' peel_comp ?ph ?pF ?pN ?pm ?pR ?pl ?pturn ?pfin
    case ph => exact rfl
    case pF => k_asm
    case pN => k_asm
    case pm => exact List.mem_cons_self
    case pR => exact RowsOk.more hR
    case pl => assumption
    case pturn =>
      intro i a us c zs I oI C oC D m₂ h tk E' Q' hi ha hS hn hx F₁ N₁ hq
      have z0 : 0 < (ws9.take (i + 1)).length := by rw [List.length_take]; omega
      have z1 : (ws9.take (i + 1)).length ≤ 10 := by rw [List.length_take]; omega
      have ok := okW_take ok9 (i + 1)
      (try k_fold)
      k_steps
      refine' hq _ _ ?sF ?sN
      case sF => k_asm
      case sN => k_asm
    case pfin =>
      intro D h tk zs c F₁ N₁ hz
      k_steps)
end
end Mine41
theorem PySem.Challenge.cw_nb0041_01_holds : PySem.Challenge.rw_nb0041_01.Holds := by
  exact Mine41.main
