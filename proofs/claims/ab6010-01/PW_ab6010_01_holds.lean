import PyProof.Rows.All
import Wide.All
import OpenK.AllK
import Wide.FinOn
import PySem.Challenge.RW_ab6010_01
open PySem PySem.W PyProof.Rows PySem.Calls
set_option Elab.async false
set_option maxRecDepth 100000
set_option maxHeartbeats 8000000
namespace Mine
open_top hd for PySem.Challenge.rw_ab6010_01
/-- open_top leaves the walk in its wide mode: set it back -/
theorem walk_plain : True := by
  w_top off
  trivial
end Mine
namespace Mine
open PySem.Builtin PySem.Builtin.Str

/-! ## Texts as lists of numbers -/
def S (l : List Nat) : Str := ⟨l.toArray⟩
/-- the place of the last `x`, or -1 -/
def lastIx (x : Nat) : List Nat → Int
  | [] => -1
  | a :: l => if 0 ≤ lastIx x l then lastIx x l + 1 else if a = x then 0 else -1
def lstr (c : Nat) (l : List Nat) : List Nat := l.dropWhile (· == c)
def rstr (c : Nat) (l : List Nat) : List Nat := (l.reverse.dropWhile (· == c)).reverse
/-- cut at every `c` -/
def cuts (c : Nat) : List Nat → List (List Nat)
  | [] => [[]]
  | a :: l => if a = c then [] :: cuts c l else match cuts c l with
    | [] => [[a]]
    | p :: r => (a :: p) :: r

theorem S_cps (l : List Nat) : (S l).cps.toList = l := by simp [S]
theorem S_length (l : List Nat) : (S l).length = l.length := by simp [S, Str.length]
theorem S_inj {a b : List Nat} (h : S a = S b) : a = b := by rw [← S_cps a, h, S_cps]
theorem S_eq (x : Str) : x = S x.cps.toList := by simp [S]
theorem S_append (a b : List Nat) : S a ++ S b = S (a ++ b) := by
  apply Str.ext'; simp [S, Str.cps_append]

theorem lastIx_ge (x : Nat) : ∀ l, -1 ≤ lastIx x l
  | [] => by simp [lastIx]
  | a :: l => by have := lastIx_ge x l; simp only [lastIx]; split <;> (try split) <;> omega
theorem lastIx_lt (x : Nat) : ∀ l : List Nat, lastIx x l < l.length
  | [] => by simp [lastIx]
  | a :: l => by have := lastIx_lt x l; simp only [lastIx, List.length_cons]; split <;> (try split) <;> omega
theorem lastIx_neg (x : Nat) : ∀ l : List Nat, lastIx x l < 0 → x ∉ l
  | [], _ => by simp
  | a :: l, h => by
    simp only [lastIx] at h
    split at h
    · omega
    · split at h
      · omega
      · have := lastIx_neg x l (by omega)
        simp [this]; omega
theorem lastIx_at (x : Nat) : ∀ (l : List Nat) (i : Nat), lastIx x l = i → l[i]? = some x ∧ x ∉ l.drop (i + 1)
  | [], i, h => by simp [lastIx] at h
  | a :: l, i, h => by
    simp only [lastIx] at h
    split at h
    · rename_i h0
      obtain ⟨j, rfl⟩ : ∃ j, i = j + 1 := ⟨i - 1, by omega⟩
      have := lastIx_at x l j (by omega)
      simpa using this
    · rename_i h0
      split at h
      · rename_i hx
        have : i = 0 := by omega
        subst this
        exact ⟨by simp [hx], by simpa using lastIx_neg x l (by omega)⟩
      · exact absurd h (by omega)
theorem lastIx_uniq (x : Nat) (l : List Nat) (i : Nat) (h1 : l[i]? = some x) (h2 : ∀ k, i < k → l[k]? ≠ some x) : lastIx x l = i := by
  have hm : x ∈ l := List.mem_of_getElem? h1
  have h0 : 0 ≤ lastIx x l := by
    refine Int.not_lt.mp fun h => lastIx_neg x l h hm
  obtain ⟨j, hj⟩ := Int.eq_ofNat_of_zero_le h0
  have ⟨a1, a2⟩ := lastIx_at x l j hj
  rw [hj]
  by_cases h : i < j
  · exact absurd a1 (h2 j h)
  · by_cases h' : j < i
    · refine absurd (List.mem_of_getElem? (i := i - (j + 1)) ?_) a2
      rw [List.getElem?_drop, show j + 1 + (i - (j + 1)) = i by omega, h1]
    · have : i = j := by omega
      rw [this]
theorem lastIx_none {x : Nat} {l : List Nat} (h : x ∉ l) : lastIx x l = -1 := by
  have := lastIx_ge x l
  by_cases h0 : 0 ≤ lastIx x l
  · obtain ⟨j, hj⟩ := Int.eq_ofNat_of_zero_le h0
    exact absurd (List.mem_of_getElem? (lastIx_at x l j hj).1) h
  · omega

theorem at_one (l : List Nat) (c i : Nat) : StrLaws.At (S l) (S [c]) (S l).length i ↔ l[i]? = some c := by
  have := StrLaws.subAt_one (S l) c i
  rw [S_cps] at this
  exact this
theorem rfind_S (l : List Nat) (c : Nat) : Txt.rfind (S l) (S [c]) = lastIx c l := by
  rcases rfind_whole (S l) (S [c]) with ⟨h, hn⟩ | ⟨i, h, hi, hn⟩
  · rw [h, lastIx_none]
    intro hm
    obtain ⟨i, hi⟩ := List.getElem?_of_mem hm
    exact hn i ((at_one l c i).mpr hi)
  · rw [h, lastIx_uniq c l i ((at_one l c i).mp hi) fun k hk e => hn k hk ((at_one l c k).mpr e)]

theorem clip_over (l : Option Int) (j : Int) (n : Nat) (h : (n : Int) ≤ j) : strSliceIndices l (some j) 1 n = strSliceIndices l (some (n : Int)) 1 n := by
  have h0 : ¬ j < 0 := by omega
  have h1 : ¬ (n : Int) < 0 := by omega
  have h2 : min j (n : Int) = n := by omega
  simp [strSliceIndices, h0, h1, h2]
theorem clip_over_lo (u : Option Int) (j : Int) (n : Nat) (h : (n : Int) ≤ j) : strSliceIndices (some j) u 1 n = strSliceIndices (some (n : Int)) u 1 n := by
  have h0 : ¬ j < 0 := by omega
  have h1 : ¬ (n : Int) < 0 := by omega
  have h2 : min j (n : Int) = n := by omega
  simp [strSliceIndices, h0, h1, h2]
theorem slice_is (x : Str) (l u : Option Int) : Txt.slice x l u = StrLaws.sliceText x l u := rfl
theorem slice_to (l : List Nat) {j : Int} (h : 0 ≤ j) : Txt.slice (S l) none (some j) = S (l.take j.toNat) := by
  rw [slice_is]
  have main : ∀ j : Int, 0 ≤ j → j ≤ l.length → StrLaws.sliceText (S l) none (some j) = S (l.take j.toNat) := fun j h0 h1 => by
    rw [StrLaws.sliceText_to ⟨h0, by rw [S_cps]; exact h1⟩, S_cps]
    simp [S]
  by_cases h1 : j ≤ l.length
  · exact main j h h1
  · have e : StrLaws.sliceText (S l) none (some j) = StrLaws.sliceText (S l) none (some (l.length : Int)) := by
      unfold StrLaws.sliceText
      rw [S_length, clip_over _ j _ (by omega)]
    rw [e, main _ (by omega) (by omega), List.take_of_length_le (by omega), List.take_of_length_le (by omega)]
theorem slice_from (l : List Nat) {i : Int} (h : 0 ≤ i) : Txt.slice (S l) (some i) none = S (l.drop i.toNat) := by
  rw [slice_is]
  have main : ∀ i : Int, 0 ≤ i → i ≤ l.length → StrLaws.sliceText (S l) (some i) none = S (l.drop i.toNat) := fun i h0 h1 => by
    rw [StrLaws.sliceText_from ⟨h0, by rw [S_cps]; exact h1⟩, S_cps, List.take_of_length_le (by rw [List.length_drop]; omega)]
    rfl
  by_cases h1 : i ≤ l.length
  · exact main i h h1
  · have e : StrLaws.sliceText (S l) (some i) none = StrLaws.sliceText (S l) (some (l.length : Int)) none := by
      unfold StrLaws.sliceText
      rw [S_length, clip_over_lo _ i _ (by omega)]
    rw [e, main _ (by omega) (by omega), List.drop_eq_nil_of_le (by omega), List.drop_eq_nil_of_le (by omega)]
theorem slice_mid (l : List Nat) {i j : Int} (h : 0 ≤ i) (hij : i ≤ j) (hj : j ≤ l.length) : Txt.slice (S l) (some i) (some j) = S ((l.take j.toNat).drop i.toNat) := by
  rw [slice_is, StrLaws.sliceText_plain ⟨h, hij, by rw [S_cps]; exact hj⟩, S_cps, List.drop_take]
  have : (j - i).toNat = j.toNat - i.toNat := by omega
  rw [this]; rfl
theorem item_S (l : List Nat) {i : Int} (h0 : 0 ≤ i) (h1 : i < l.length) : Txt.item (S l) i = S [l.getD i.toNat 0] := by
  unfold Txt.item Txt.charAt
  have hn : i.toNat < l.length := by omega
  rw [StrLaws.at_nonneg (n := l.getD i.toNat 0) h0 (by simp [S, List.getD, hn])]
  rfl

theorem dropWhile_drop {p : Nat → Bool} : ∀ l : List Nat, l.drop (l.takeWhile p).length = l.dropWhile p
  | [] => rfl
  | a :: l => by
    by_cases h : p a
    · simp [h, dropWhile_drop l]
    · simp [h]
theorem strSub_S (l : List Nat) (i j : Nat) : strSub (S l) i j = S ((l.drop i).take (j - i)) := by
  rw [S_eq (strSub (S l) i j), StrLaws.strSub_toList, S_cps]
theorem lstrip_S (l : List Nat) (c : Nat) : Txt.lstripChars (S l) (S [c]) = S (lstr c l) := by
  unfold Txt.lstripChars
  rw [PyProof.Rows.stripBy_eq, strSub_S]
  simp only [stripLo, stripHi, if_true, if_false, Bool.false_eq_true, S_cps, S_length]
  have e : (S [c]).cps.contains = fun x => x == c := by funext x; simp [S]; rfl
  rw [e, dropWhile_drop, List.take_of_length_le]
  · rfl
  · rw [← dropWhile_drop, List.length_drop]; exact Nat.le_refl _
theorem rstr_take (c : Nat) (l : List Nat) : l.take (l.length - (l.reverse.takeWhile (· == c)).length) = rstr c l := by
  unfold rstr
  rw [← dropWhile_drop, List.reverse_drop, List.reverse_reverse, List.length_reverse]
theorem rstrip_S (l : List Nat) (c : Nat) : Txt.rstripChars (S l) (S [c]) = S (rstr c l) := by
  unfold Txt.rstripChars
  rw [PyProof.Rows.stripBy_eq, strSub_S]
  simp only [stripLo, stripHi, if_true, if_false, Bool.false_eq_true, S_cps, S_length, List.drop_zero, Nat.sub_zero]
  have e : (S [c]).cps.contains = fun x => x == c := by funext x; simp [S]; rfl
  rw [e, rstr_take]
theorem strip_S (l : List Nat) (c : Nat) : Txt.stripChars (S l) (S [c]) = S (rstr c (lstr c l)) := by
  unfold Txt.stripChars
  rw [PyProof.Rows.stripBy_eq, strSub_S]
  simp only [stripLo, stripHi, if_true, if_false, Bool.false_eq_true, S_cps, S_length]
  have e : (S [c]).cps.contains = fun x => x == c := by funext x; simp [S]; rfl
  rw [e, dropWhile_drop]
  have h : (l.dropWhile fun x => x == c).length = l.length - (l.takeWhile fun x => x == c).length := by
    rw [← dropWhile_drop, List.length_drop]
  rw [← rstr_take, lstr, h]
  congr 2
  omega
theorem in_S (l : List Nat) (c : Nat) : (!(occurrences (S l) (S [c]) 0 (S l).length 1).isEmpty) = decide (c ∈ l) := by
  have := StrLaws.found_one (S l) c
  rw [S_cps] at this
  exact this

theorem cuts_ne (c : Nat) : ∀ l, cuts c l ≠ []
  | [] => by simp [cuts]
  | a :: l => by
    simp only [cuts]
    split
    · simp
    · split <;> simp
/-- a list of pieces free of `c`, joined by `c`, is cut back -/
theorem cuts_free (c : Nat) : ∀ p : List Nat, c ∉ p → cuts c p = [p]
  | [], _ => rfl
  | a :: l, h => by
    have h1 : a ≠ c := fun e => h (by simp [e])
    have h2 : c ∉ l := fun e => h (by simp [e])
    simp [cuts, h1, cuts_free c l h2]
theorem cuts_app (c : Nat) (r : List Nat) : ∀ p : List Nat, c ∉ p → cuts c (p ++ c :: r) = p :: cuts c r
  | [], _ => by simp [cuts]
  | a :: l, h => by
    have h1 : a ≠ c := fun e => h (by simp [e])
    have h2 : c ∉ l := fun e => h (by simp [e])
    simp [cuts, h1, cuts_app c r l h2]
theorem cuts_join (c : Nat) : ∀ ps : List Str, ps ≠ [] → (∀ p ∈ ps, c ∉ p.cps.toList) → cuts c (Str.join (S [c]) ps).cps.toList = ps.map (·.cps.toList)
  | [], h, _ => absurd rfl h
  | [x], _, h => by
    rw [List.map_singleton]
    exact cuts_free c _ (h x (.head _))
  | x :: y :: r, _, h => by
    have ih := cuts_join c (y :: r) (by simp) fun p hp => h p (.tail _ hp)
    show cuts c (x ++ S [c] ++ Str.join (S [c]) (y :: r)).cps.toList = _
    have e : (x ++ S [c] ++ Str.join (S [c]) (y :: r)).cps.toList = x.cps.toList ++ c :: (Str.join (S [c]) (y :: r)).cps.toList := by
      simp [Str.cps_append, S]
    rw [e, cuts_app c _ _ (h x (.head _)), ih]
    rfl
theorem split_S (l : List Nat) (c : Nat) : Txt.split (S l) (S [c]) = (cuts c l).map S := by
  have h1 := StrLaws.join_split (S l) (S [c])
  have h2 := StrLaws.split_free (S l) c
  have hne : Txt.split (S l) (S [c]) ≠ [] := by
    have := PyProof.Rows.split_pos (S l) (S [c])
    intro e; rw [e] at this; simp at this
  have h3 := cuts_join c _ hne h2
  rw [h1, S_cps] at h3
  rw [h3, List.map_map]
  have : (S ∘ fun x : Str => x.cps.toList) = _root_.id := by funext x; exact (S_eq x).symm
  rw [this, List.map_id]
end Mine
namespace Mine
open PySem.Builtin

/-! ## Bytes as lists of numbers -/
def Bt (l : List Nat) : Array UInt8 := (l.map Nat.toUInt8).toArray
def Oct (l : List Nat) : Prop := ∀ c ∈ l, c < 256
theorem Bt_toList (l : List Nat) : (Bt l).toList = l.map Nat.toUInt8 := by simp [Bt]
theorem Bt_size (l : List Nat) : (Bt l).size = l.length := by simp [Bt]
theorem oct_inj {a b : Nat} (ha : a < 256) (hb : b < 256) (h : a.toUInt8 = b.toUInt8) : a = b := by
  have h1 : a.toUInt8.toNat = b.toUInt8.toNat := by rw [h]
  have e : ∀ n : Nat, n.toUInt8.toNat = n % 256 := fun _ => rfl
  rw [e, e] at h1
  omega
theorem map_inj : ∀ {a b : List Nat}, Oct a → Oct b → a.map Nat.toUInt8 = b.map Nat.toUInt8 → a = b
  | [], [], _, _, _ => rfl
  | [], _ :: _, _, _, h => by simp at h
  | _ :: _, [], _, _, h => by simp at h
  | x :: a, y :: b, ha, hb, h => by
    simp only [List.map_cons, List.cons.injEq] at h
    rw [oct_inj (ha x (.head _)) (hb y (.head _)) h.1, map_inj (fun c hc => ha c (.tail _ hc)) (fun c hc => hb c (.tail _ hc)) h.2]
theorem bt_bne {a b : List Nat} (ha : Oct a) (hb : Oct b) : ((Bt a).toList != (Bt b).toList) = decide (a ≠ b) := by
  rw [Bool.eq_iff_iff, Bt_toList, Bt_toList, bne_iff_ne, decide_eq_true_eq]
  exact not_congr ⟨map_inj ha hb, fun e => by rw [e]⟩
theorem bt_beq {a b : List Nat} (ha : Oct a) (hb : Oct b) : ((Bt a).toList == (Bt b).toList) = decide (a = b) := by
  rw [Bool.eq_iff_iff, Bt_toList, Bt_toList, beq_iff_eq, decide_eq_true_eq]
  exact ⟨map_inj ha hb, fun e => by rw [e]⟩
theorem s_bne (a b : List Nat) : (S a != S b) = decide (a ≠ b) := by
  rw [Bool.eq_iff_iff, bne_iff_ne, decide_eq_true_eq]
  exact not_congr ⟨S_inj, fun e => by rw [e]⟩
theorem s_beq (a b : List Nat) : (S a == S b) = decide (a = b) := by
  rw [Bool.eq_iff_iff, beq_iff_eq, decide_eq_true_eq]
  exact ⟨S_inj, fun e => by rw [e]⟩
theorem bt_append (a b : List Nat) : Bt a ++ Bt b = Bt (a ++ b) := by simp [Bt]

theorem Oct.take {l : List Nat} (h : Oct l) (n : Nat) : Oct (l.take n) := fun c hc => h c (List.mem_of_mem_take hc)
theorem Oct.drop {l : List Nat} (h : Oct l) (n : Nat) : Oct (l.drop n) := fun c hc => h c (List.mem_of_mem_drop hc)
theorem mem_dropWhile {p : Nat → Bool} {c : Nat} : ∀ {l : List Nat}, c ∈ l.dropWhile p → c ∈ l
  | [], h => h
  | a :: l, h => by
    by_cases ha : p a
    · rw [List.dropWhile_cons_of_pos ha] at h
      exact .tail _ (mem_dropWhile h)
    · rw [List.dropWhile_cons_of_neg ha] at h
      exact h
theorem mem_lstr {c d : Nat} {l : List Nat} (h : d ∈ lstr c l) : d ∈ l := mem_dropWhile h
theorem mem_rstr {c d : Nat} {l : List Nat} (h : d ∈ rstr c l) : d ∈ l := by
  have := mem_dropWhile (List.mem_reverse.mp h)
  exact List.mem_reverse.mp this
theorem Oct.lstr {l : List Nat} (h : Oct l) (c : Nat) : Oct (lstr c l) := fun d hd => h d (mem_lstr hd)
theorem Oct.rstr {l : List Nat} (h : Oct l) (c : Nat) : Oct (rstr c l) := fun d hd => h d (mem_rstr hd)
theorem Oct.append {a b : List Nat} (ha : Oct a) (hb : Oct b) : Oct (a ++ b) := fun c hc => by
  rcases List.mem_append.mp hc with h | h
  · exact ha c h
  · exact hb c h
theorem Oct.nil : Oct [] := fun _ h => nomatch h
theorem Oct.one {c : Nat} (h : c < 256) : Oct [c] := fun d hd => by rw [List.mem_singleton.mp hd]; exact h

/-! slices of bytes -/
theorem picked_to (l : List Nat) {j : Int} (h : 0 ≤ j) : KBy.picked (Bt l) none (some j) = Bt (l.take j.toNat) := by
  rw [KBc.picked_eq]
  obtain ⟨n, rfl⟩ := Int.eq_ofNat_of_zero_le h
  show ((List.drop 0 _).take (clipAt _ (n : Int) - 0)).toArray = _
  rw [clipAt_nat, List.drop_zero, Nat.sub_zero, Bt_toList, Bt_size]
  simp only [Bt, List.map_take, Int.toNat_natCast]
  congr 1
  by_cases hn : n ≤ l.length
  · rw [Nat.min_eq_left hn]
  · rw [Nat.min_eq_right (by omega), List.take_of_length_le (by simp), List.take_of_length_le (by simp; omega)]
theorem picked_from (l : List Nat) {i : Int} (h : 0 ≤ i) : KBy.picked (Bt l) (some i) none = Bt (l.drop i.toNat) := by
  rw [KBc.picked_eq]
  obtain ⟨n, rfl⟩ := Int.eq_ofNat_of_zero_le h
  show ((List.drop (clipAt _ (n : Int)) _).take (_ - clipAt _ (n : Int))).toArray = _
  rw [clipAt_nat, Bt_toList, Bt_size]
  simp only [Bt, List.map_drop, Int.toNat_natCast]
  congr 1
  rw [List.take_of_length_le (by simp)]
  by_cases hn : n ≤ l.length
  · rw [Nat.min_eq_left hn]
  · rw [Nat.min_eq_right (by omega), List.drop_eq_nil_of_le (by simp), List.drop_eq_nil_of_le (by simp; omega)]
theorem picked_mid (l : List Nat) {i j : Int} (h : 0 ≤ i) (hij : i ≤ j) (hj : j ≤ l.length) : KBy.picked (Bt l) (some i) (some j) = Bt ((l.take j.toNat).drop i.toNat) := by
  rw [KBc.picked_eq]
  obtain ⟨n, rfl⟩ := Int.eq_ofNat_of_zero_le h
  obtain ⟨k, rfl⟩ := Int.eq_ofNat_of_zero_le (Int.le_trans h hij)
  show ((List.drop (clipAt _ (n : Int)) _).take (clipAt _ (k : Int) - clipAt _ (n : Int))).toArray = _
  rw [clipAt_nat, clipAt_nat, Bt_toList, Bt_size, Nat.min_eq_left (by omega), Nat.min_eq_left (by omega), ← List.drop_take]
  simp [Bt, List.map_drop, List.map_take]

/-! rfind, rstrip of bytes -/
theorem slot_rfind : Slot "bytes" "rfind" "bytes.rfind" :=
  .of (owner := "bytes") (n := "rfind") (by rw [typeLookup_type, builtinLookup_eq_fast]; kernel_rfl) (by decide +kernel) (by decide +kernel) (by decide +kernel)
    (by first | exact .inl (by decide +kernel) | exact .inr (by decide +kernel)) (by rw [isSubtype_type]; kernel_rfl)
theorem type_rfind : typeOf (.builtin "bytes.rfind") = pure (.type "method_descriptor") := by show builtinType _ = _; rw [builtinType_eq_fast]; kernel_rfl
theorem entry_rfind : entryFor table "bytes.rfind" = some Builtin.«bytes.rfind» := entryFor_of_tree (by kernel_rfl)
theorem args_rfind (a b : Value) : argsOk "bytes.rfind" ⟨[a, b], []⟩ := by
  unfold argsOk; rw [signature?_of (id := "bytes.rfind") (n := ['d', 'n', 'i', 'f', 'r']) (o := ['s', 'e', 't', 'y', 'b']) (by kernel_rfl) FB.owner_bytes]; kernel_rfl
theorem slot_rstrip : Slot "bytes" "rstrip" "bytes.rstrip" :=
  .of (owner := "bytes") (n := "rstrip") (by rw [typeLookup_type, builtinLookup_eq_fast]; kernel_rfl) (by decide +kernel) (by decide +kernel) (by decide +kernel)
    (by first | exact .inl (by decide +kernel) | exact .inr (by decide +kernel)) (by rw [isSubtype_type]; kernel_rfl)
theorem type_rstrip : typeOf (.builtin "bytes.rstrip") = pure (.type "method_descriptor") := by show builtinType _ = _; rw [builtinType_eq_fast]; kernel_rfl
theorem entry_rstrip : entryFor table "bytes.rstrip" = some Builtin.«bytes.rstrip» := entryFor_of_tree (by kernel_rfl)
theorem args_rstrip (a b : Value) : argsOk "bytes.rstrip" ⟨[a, b], []⟩ := by
  unfold argsOk; rw [signature?_of (id := "bytes.rstrip") (n := ['p', 'i', 'r', 't', 's', 'r']) (o := ['s', 'e', 't', 'y', 'b']) (by kernel_rfl) FB.owner_bytes]; kernel_rfl

def rfindB (b c : Array UInt8) : Option Nat := Bytes.rfind? b c 0 b.size
theorem gives_rfind (b c : Array UInt8) (t u : Tok) (h : ¬ (b.size : Int) < c.size) :
    Gives («bytes.rfind» ⟨[.bytes b t, .bytes c u], []⟩) (.int (match rfindB b c with | some i => (i : Int) | none => -1)) := by
  refine .of_wp fun M A E s Q hq => ?_
  have e : Bytes.searchArgs .bytes "rfind" ⟨[.bytes b t, .bytes c u], []⟩ = pure (b, c, some (0, b.size)) := by
    show (Bytes.buffer? _ (.bytes c u) >>= fun r => _) = _
    rw [KBy.buffer_eq]
    show (pure (b, c, if (min (b.size : Int) b.size - 0 : Int) < c.size then none else some ((0 : Int).toNat, (min (b.size : Int) b.size).toNat)) : Sem (Array UInt8 × Array UInt8 × Option (Nat × Nat))) = _
    rw [if_neg (by omega)]
    have : (min (b.size : Int) b.size).toNat = b.size := by omega
    rw [this]; rfl
  show wpAny M A (Bytes.searchArgs .bytes "rfind" ⟨[.bytes b t, .bytes c u], []⟩ >>= fun r => _) _ E s
  refine wpAny_bind (wpAny_of_eq e ?_)
  show wpAny M A (match Bytes.rfind? b c 0 b.size with | some i => retInt i | none => _) _ E s
  unfold rfindB at hq
  cases hr : Bytes.rfind? b c 0 b.size with
  | some i =>
    rw [hr] at hq
    exact wpAny_bind (wpAny_mkInt (wpAny_pure ⟨_, rfl, hq⟩))
  | none =>
    rw [hr] at hq
    exact wpAny_bind (wpAny_rule (wpAny_bind (wpAny_mkInt (wpAny_pure ⟨_, rfl, hq⟩))))
theorem extract_one (l : List Nat) (hl : Oct l) (c i : Nat) (hc : c < 256) : ((Bt l).extract i (i + (Bt [c]).size) == Bt [c]) = decide (l[i]? = some c) := by
  rw [Bool.eq_iff_iff, beq_iff_eq, decide_eq_true_eq]
  have e1 : (Bt l).extract i (i + (Bt [c]).size) = Bt ((l.drop i).take 1) := by
    simp [Bt, List.map_drop, List.map_take]
  rw [e1]
  constructor
  · intro h
    have h2 : (Bt ((l.drop i).take 1)).toList = (Bt [c]).toList := by rw [h]
    rw [Bt_toList, Bt_toList] at h2
    have h3 := map_inj ((hl.drop i).take 1) (Oct.one hc) h2
    cases hd : l.drop i with
    | nil => rw [hd] at h3; simp at h3
    | cons a r =>
      rw [hd] at h3
      simp only [List.take_succ_cons, List.take_zero, List.cons.injEq, and_true] at h3
      have : (l.drop i)[0]? = some a := by rw [hd]; rfl
      rw [List.getElem?_drop] at this
      rw [← h3]; simpa using this
  · intro h
    have : (l.drop i).take 1 = [c] := by
      obtain ⟨hi, e⟩ := List.getElem?_eq_some_iff.mp h
      rw [List.drop_eq_getElem_cons hi, e]; rfl
    rw [this]
theorem rfindB_S (l : List Nat) (hl : Oct l) (c : Nat) (hc : c < 256) : (match rfindB (Bt l) (Bt [c]) with | some i => (i : Int) | none => -1) = lastIx c l := by
  unfold rfindB Bytes.rfind?
  have hs : (Bt [c]).size = 1 := Bt_size [c]
  have hf : (fun i => (Bt l).extract i (i + (Bt [c]).size) == Bt [c]) = fun i => decide (l[i]? = some c) := by
    funext i; exact extract_one l hl c i hc
  rw [hf, hs, Bt_size]
  have e0 : (List.range (l.length + 1 - (0 + 1))).map (· + 0) = List.range l.length := by simp
  rw [e0]
  cases h : (List.range l.length).reverse.find? fun i => decide (l[i]? = some c) with
  | none =>
    rw [List.find?_eq_none] at h
    refine (lastIx_none fun hm => ?_).symm
    obtain ⟨i, hi⟩ := List.getElem?_of_mem hm
    have hlt := (List.getElem?_eq_some_iff.mp hi).1
    exact h i (by simp [hlt]) (by simpa using hi)
  | some i =>
    rw [List.find?_eq_some_iff_append] at h
    obtain ⟨h1, as, bs, h2, h3⟩ := h
    refine (lastIx_uniq c l i (by simpa using h1) fun k hk e => ?_).symm
    have hkl : k < l.length := (List.getElem?_eq_some_iff.mp e).1
    have hmem : k ∈ as := by
      have h4 : (List.range l.length) = bs.reverse ++ i :: as.reverse := by
        have := congrArg List.reverse h2
        simpa using this
      have hnd : (List.range l.length).Pairwise (· < ·) := List.pairwise_lt_range
      have hk2 : k ∈ bs.reverse ++ i :: as.reverse := by rw [← h4]; simp [hkl]
      rcases List.mem_append.mp hk2 with hb | hb
      · rw [h4, List.pairwise_append] at hnd
        have := hnd.2.2 k hb i (.head _)
        omega
      · rcases List.mem_cons.mp hb with rfl | hb
        · omega
        · simpa using hb
    have := h3 k hmem
    simp [e] at this
theorem gives_rstrip (b c : Array UInt8) (t u : Tok) :
    Gives («bytes.rstrip» ⟨[.bytes b t, .bytes c u], []⟩) (if ((b.toList.reverse.dropWhile c.contains).reverse.length == b.size) = true then .val (.bytes b t) else .bytes ((b.toList.reverse.dropWhile c.contains).reverse.toArray)) := by
  refine .of_wp fun M A E s Q hq => ?_
  show wpAny M A (Bytes.bytesLike _ (.bytes c u) >>= fun r => _) _ E s
  have e : ∀ id, Bytes.bytesLike id (.bytes c u) = pure c := fun id => by
    unfold Bytes.bytesLike
    rw [KBy.buffer_eq]; rfl
  refine wpAny_bind (wpAny_of_eq (e _) ?_)
  show wpAny M A (if ((b.toList.reverse.dropWhile c.contains).reverse.length == b.size) = true then _ else _) _ E s
  by_cases h : ((b.toList.reverse.dropWhile c.contains).reverse.length == b.size) = true
  · rw [if_pos h] at hq ⊢
    refine wpAny_bind (wpAny_rule ?_)
    refine wpAny_bind (wpAny_bind (wpAny_typeOf (typeIs_bytes s b t) ?_))
    exact wpAny_pure (wpAny_pure ⟨_, rfl, hq⟩)
  · rw [if_neg h] at hq ⊢
    exact wpAny_bind (wpAny_mkBytes (wpAny_pure ⟨_, rfl, hq.2⟩) hq.1)
theorem rstrip_B (l : List Nat) (hl : Oct l) (c : Nat) (hc : c < 256) : ((Bt l).toList.reverse.dropWhile (Bt [c]).contains).reverse = (rstr c l).map Nat.toUInt8 := by
  have hw : ∀ m : List Nat, Oct m → (m.map Nat.toUInt8).dropWhile (Bt [c]).contains = (m.dropWhile (· == c)).map Nat.toUInt8 := by
    intro m
    induction m with
    | nil => intro _; rfl
    | cons a r ih =>
      intro hm
      have ha : (Bt [c]).contains a.toUInt8 = (a == c) := by
        rw [Bool.eq_iff_iff]
        simp only [Bt, List.map_cons, List.map_nil, Array.contains_iff_mem, List.mem_toArray, List.mem_singleton, beq_iff_eq]
        exact ⟨oct_inj (hm a (.head _)) hc, fun e => by rw [e]⟩
      rw [List.map_cons, List.dropWhile_cons, List.dropWhile_cons, ha]
      split
      · exact ih fun d hd => hm d (.tail _ hd)
      · rfl
  unfold rstr
  rw [Bt_toList, ← List.map_reverse, hw _ fun d hd => hl d (List.mem_reverse.mp hd), List.map_reverse]

section
variable {prog : Program} {w : World} {A : Around} {E : Value → Shared → Prop} {s : Shared} {l : List Nat} {c : Nat} {t u : Tok}
theorem b_rfind {Q : Value → Shared → Prop} (hl : Oct l) (hc : c < 256) (h : ∀ t' k, Q (.int (lastIx c l) t') { s with toks := k }) :
    wpAny (model prog w) A (call (.builtin "bytes.rfind") [.bytes (Bt l) t, .bytes (Bt [c]) u]) Q E s := by
  by_cases h0 : l = []
  · subst h0
    refine call_gives slot_rfind (typeIs_bytes _ _ _) entry_rfind (args_rfind _ _) (m := .int (-1)) ?_ (h _ _)
    refine .of_wp fun M A E s Q hq => ?_
    have e : Bytes.searchArgs .bytes "rfind" ⟨[.bytes (Bt []) t, .bytes (Bt [c]) u], []⟩ = pure (Bt [], Bt [c], none) := by
      show (Bytes.buffer? _ (.bytes (Bt [c]) u) >>= fun r => _) = _
      rw [KBy.buffer_eq]
      rfl
    show wpAny M A (Bytes.searchArgs .bytes "rfind" ⟨[.bytes (Bt []) t, .bytes (Bt [c]) u], []⟩ >>= fun r => _) _ E s
    refine wpAny_bind (wpAny_of_eq e ?_)
    exact wpAny_bind (wpAny_rule (wpAny_bind (wpAny_mkInt (wpAny_pure ⟨_, rfl, hq⟩))))
  · have hz : ¬ ((Bt l).size : Int) < (Bt [c]).size := by
      rw [Bt_size, Bt_size]
      have := List.length_pos_iff.mpr h0
      simp; omega
    refine call_gives slot_rfind (typeIs_bytes _ _ _) entry_rfind (args_rfind _ _) (gives_rfind _ _ t u hz) ?_
    rw [rfindB_S l hl c hc]
    exact h _ _
theorem b_rstrip {Q : Value → Shared → Prop} (hl : Oct l) (hc : c < 256) (hz : l.length ≤ 1000000) (h : ∀ t' k, Q (.bytes (Bt (rstr c l)) t') { s with toks := k }) :
    wpAny (model prog w) A (call (.builtin "bytes.rstrip") [.bytes (Bt l) t, .bytes (Bt [c]) u]) Q E s := by
  refine call_gives slot_rstrip (typeIs_bytes _ _ _) entry_rstrip (args_rstrip _ _) (gives_rstrip _ _ t u) ?_
  rw [rstrip_B l hl c hc]
  have hle : (rstr c l).length ≤ l.length := by
    unfold rstr
    rw [List.length_reverse, ← dropWhile_drop, List.length_drop, List.length_reverse]
    omega
  split
  · rename_i h1
    rw [List.length_map, Bt_size, beq_iff_eq] at h1
    have e : rstr c l = l := by
      have h2 := rstr_take c l
      have h3 : (l.take (l.length - (l.reverse.takeWhile (· == c)).length)).length = l.length := by rw [h2, h1]
      rw [List.length_take] at h3
      rw [← h2, List.take_of_length_le (by omega)]
    have := h t s.toks
    rw [e] at this
    exact this
  · refine ⟨?_, h _ _⟩
    rw [sizeLine_eq]
    simp only [List.size_toArray, List.length_map]
    omega
theorem b_method_rfind {M : Model} {b : Array UInt8} {pl : Sem Bool} {Q : Value × List Value → Shared → Prop} (h : Q (.builtin "bytes.rfind", [.bytes b t]) s) : wpAny M A (getMethod (.bytes b t) "rfind" pl) Q E s := by
  with_reducible exact KBd.method_of (.bytes b t) (typeIs_bytes _ _ _) slot_rfind type_rfind KBd.noRef h
theorem b_method_rstrip {M : Model} {b : Array UInt8} {pl : Sem Bool} {Q : Value × List Value → Shared → Prop} (h : Q (.builtin "bytes.rstrip", [.bytes b t]) s) : wpAny M A (getMethod (.bytes b t) "rstrip" pl) Q E s := by
  with_reducible exact KBd.method_of (.bytes b t) (typeIs_bytes _ _ _) slot_rstrip type_rstrip KBd.noRef h
end
end Mine
namespace Mine
open PySem.Builtin

/-- a text or, by `o`, bytes -/
def kv (o : Bool) (l : List Nat) (t : Tok) : Value := if o = true then .bytes (Bt l) t else .str (S l) t
theorem kv_s (l : List Nat) (t : Tok) : kv false l t = .str (S l) t := rfl
theorem kv_b (l : List Nat) (t : Tok) : kv true l t = .bytes (Bt l) t := rfl
/-- where it is to be bytes, every number is below 256 -/
def OK (o : Bool) (l : List Nat) : Prop := o = true → Oct l

/-! ## Frames as lists of names -/
def mp (es : List (Str × Value)) : Str → Option Value := fun y => es.lookup y
inductive Put (x : Str) (v : Value) : List (Str × Value) → List (Str × Value) → Prop
  | nil : Put x v [] [(x, v)]
  | here {u r} : Put x v ((x, u) :: r) ((x, v) :: r)
  | there {y u r r'} : ¬ x = y → Put x v r r' → Put x v ((y, u) :: r) ((y, u) :: r')
theorem Put.eq {x : Str} {v : Value} : ∀ {a b}, Put x v a b → (fun y => if y = x then some v else mp a y) = mp b
  | _, _, .nil => by
    funext y
    simp only [mp, List.lookup_cons, List.lookup_nil]
    by_cases h : y = x
    · simp [h]
    · have h2 : (y == x) = false := beq_false_of_ne h
      simp [h, h2]
  | _, _, .here => by
    funext y
    simp only [mp, List.lookup_cons]
    by_cases h : y = x
    · simp [h]
    · have h2 : (y == x) = false := beq_false_of_ne h
      simp [h, h2]
  | _, _, .there hn p => by
    have ih := p.eq
    funext y
    have := congrFun ih y
    simp only [mp, List.lookup_cons] at this ⊢
    by_cases h : y = x
    · subst h
      have h2 : (y == _) = false := beq_false_of_ne hn
      simp only [h2, if_true] at this ⊢
      exact this
    · simp only [h, if_false] at this ⊢
      rw [this]

section
variable {prog : Program} {w : World} {M : Model} {A : Around} {E : Value → Shared → Prop} {s : Shared} {h₀ : Heap} {L : Addr} {m : Str → Option Value} {news : List (Addr × Obj)}
theorem st_mp {name : Str} {scope : Scope} {a : Addr} {cd : Value} {es es' : List (Str × Value)} {x : Str} {v : Value} {Q : Unit → Shared → Prop} (F : Fr h₀ L s.heap (mp es)) (N : News h₀ L s.heap news) (P : Put x v es es')
    (h : ∀ h', Fr h₀ L h' (mp es') → News h₀ L h' news → Q () { s with heap := h', toks := s.toks + 1 })
    (hk : scope.kind = .function := by rfl) (hl : (envOf name scope L a cd).kindOf x = some .local := by rfl) :
    wpAny M A (storeName (envOf name scope L a cd) x v) Q E s :=
  wpAny_storeName_local hl F.ns (fun h' hn hs => h h' (by rw [← P.eq]; exact F.set hn hs)
      (fun p hp => ⟨by have := hs.2 p.1 (N p hp).2.1; rw [this]; exact (N p hp).1, (N p hp).2⟩))
    (by show (scope.kind == .class || (scope.kind == .module && L != mainGlobals)) = false; rw [hk]; rfl)
theorem o_const {x : Str} {l : List Nat} {k : Nat} {pos : Pos} {env : Env} {Q : Value → Shared → Prop} (e : x = S l) (h : ∀ t' k, Q (.str (S l) t') { s with toks := k }) : wpAny M A (eval (PySem.Expr.Constant (.str x) k pos) env) Q E s :=
  Calls.Constant_str (by rw [e]; exact h _ _)
theorem o_bconst {x : List UInt8} {l : List Nat} {k : Nat} {pos : Pos} {env : Env} {Q : Value → Shared → Prop} (e : x.toArray = Bt l) (h : ∀ t' k, Q (.bytes (Bt l) t') { s with toks := k }) : wpAny M A (eval (PySem.Expr.Constant (.bytes x) k pos) env) Q E s :=
  PySem.W.Constant_bytes (by rw [e]; exact h _ _)

/-! ## Texts -/
variable {l l2 : List Nat} {c : Nat} {t u : Tok} {i j : Int} {ui uj : Tok} {Q : Value → Shared → Prop}
theorem o_len (hz : l.length ≤ 100000) (h : ∀ t' k, Q (.int l.length t') { s with toks := k }) : wpAny (model prog w) A (call (.builtin "len") [.str (S l) t]) Q E s :=
  PyProof.Rows.len_str (by rw [S_length]; omega) (by rw [S_length]; exact h _ _)
theorem o_blen (hz : l.length ≤ 100000) (h : ∀ t' k, Q (.int l.length t') { s with toks := k }) : wpAny (model prog w) A (call (.builtin "len") [.bytes (Bt l) t]) Q E s :=
  PySem.W.len_bytes (by rw [Bt_size]; omega) (by rw [Bt_size]; exact h _ _)
theorem o_eq (h : Q (.bool (decide (l = l2))) s) : wpAny (model prog w) A (compareOp .Eq (.str (S l) t) (.str (S l2) u)) Q E s :=
  PyProof.Rows.eq_str (by rw [s_beq]; exact h)
theorem o_ne (h : Q (.bool (decide (l ≠ l2))) s) : wpAny (model prog w) A (compareOp .NotEq (.str (S l) t) (.str (S l2) u)) Q E s :=
  PyProof.Rows.ne_str (by rw [s_bne]; exact h)
theorem o_beq (ha : Oct l) (hb : Oct l2) (h : Q (.bool (decide (l = l2))) s) : wpAny (model prog w) A (compareOp .Eq (.bytes (Bt l) t) (.bytes (Bt l2) u)) Q E s :=
  PySem.W.eq_bytes (by rw [bt_beq ha hb]; exact h)
theorem o_bne (ha : Oct l) (hb : Oct l2) (h : Q (.bool (decide (l ≠ l2))) s) : wpAny (model prog w) A (compareOp .NotEq (.bytes (Bt l) t) (.bytes (Bt l2) u)) Q E s :=
  PySem.W.ne_bytes (by rw [bt_bne ha hb]; exact h)
theorem o_truthy {Q : Bool → Shared → Prop} (hz : l.length ≤ 100000) (h : ∀ k, Q (decide (l ≠ [])) { s with toks := k }) : wpAny (model prog w) A (truthy (.str (S l) t)) Q E s := by
  refine PySem.P.truthy_str (by rw [S_length]; omega) ?_
  have e : (((S l).length : Int) != 0) = decide (l ≠ []) := by
    rw [S_length, Bool.eq_iff_iff, bne_iff_ne, decide_eq_true_eq]
    cases l <;> simp; omega
  rw [e]; exact h _
theorem o_btruthy {Q : Bool → Shared → Prop} (hz : l.length ≤ 100000) (h : ∀ k, Q (decide (l ≠ [])) { s with toks := k }) : wpAny (model prog w) A (truthy (.bytes (Bt l) t)) Q E s := by
  refine PySem.W.truthy_bytes (by rw [Bt_size]; omega) ?_
  have e : (((Bt l).size : Int) != 0) = decide (l ≠ []) := by
    rw [Bt_size, Bool.eq_iff_iff, bne_iff_ne, decide_eq_true_eq]
    cases l <;> simp; omega
  rw [e]; exact h _
theorem o_add (hz : l.length + l2.length ≤ 100000) (h : ∀ t' k, Q (.str (S (l ++ l2)) t') { s with toks := k }) : wpAny (model prog w) A (binaryOp .Add (.str (S l) t) (.str (S l2) u)) Q E s :=
  PyProof.Rows.add_str (by rw [S_append]; exact h) (by rw [S_length, S_length, sizeLine_eq]; omega)
theorem o_iadd (hz : l.length + l2.length ≤ 100000) (h : ∀ t' k, Q (.str (S (l ++ l2)) t') { s with toks := k }) : wpAny (model prog w) A (inplaceOp .Add (.str (S l) t) (.str (S l2) u)) Q E s :=
  PyProof.Rows.iadd_str (by rw [S_append]; exact h) (by rw [S_length, S_length, sizeLine_eq]; omega)
theorem o_badd (hz : l.length + l2.length ≤ 100000) (h : ∀ t' k, Q (.bytes (Bt (l ++ l2)) t') { s with toks := k }) : wpAny (model prog w) A (binaryOp .Add (.bytes (Bt l) t) (.bytes (Bt l2) u)) Q E s :=
  KBy.add_bytes (by rw [Bt_size, Bt_size]; omega) (by rw [bt_append]; exact h)
theorem o_in (h : Q (.bool (decide (c ∈ l))) s) : wpAny (model prog w) A (compareOp .In (.str (S [c]) u) (.str (S l) t)) Q E s :=
  PyProof.Rows.in_str (by rw [in_S]; exact h)
theorem o_rfind (h : ∀ t' k, Q (.int (lastIx c l) t') { s with toks := k }) : wpAny (model prog w) A (call (.builtin "str.rfind") [.str (S l) t, .str (S [c]) u]) Q E s :=
  SC.rfind (by rw [rfind_S]; exact h _ _)
theorem o_strip (hz : l.length ≤ 100000) (h : ∀ t' k, Q (.str (S (rstr c (lstr c l))) t') { s with toks := k }) : wpAny (model prog w) A (call (.builtin "str.strip") [.str (S l) t, .str (S [c]) u]) Q E s :=
  SC.stripChars (by rw [strip_S]; exact h) (by rw [S_length, sizeLine_eq]; omega)
theorem o_lstrip (hz : l.length ≤ 100000) (h : ∀ t' k, Q (.str (S (lstr c l)) t') { s with toks := k }) : wpAny (model prog w) A (call (.builtin "str.lstrip") [.str (S l) t, .str (S [c]) u]) Q E s :=
  SC.lstripChars (by rw [lstrip_S]; exact h) (by rw [S_length, sizeLine_eq]; omega)
theorem o_rstrip (hz : l.length ≤ 100000) (h : ∀ t' k, Q (.str (S (rstr c l)) t') { s with toks := k }) : wpAny (model prog w) A (call (.builtin "str.rstrip") [.str (S l) t, .str (S [c]) u]) Q E s :=
  SC.rstripChars (by rw [rstrip_S]; exact h) (by rw [S_length, sizeLine_eq]; omega)
theorem o_ord (h : ∀ t' k, Q (.int c t') { s with toks := k }) : wpAny (model prog w) A (call (.builtin "ord") [.str (S [c]) t]) Q E s :=
  PySem.P.ord_of_char (h _ _)
theorem o_chr (h0 : 0 ≤ i) (h1 : i ≤ 1000) (h : ∀ t' k, Q (.str (S [i.toNat]) t') { s with toks := k }) : wpAny (model prog w) A (call (.builtin "chr") [.int i ui]) Q E s :=
  chr_of_range h0 (by omega) (h _ _)
theorem o_item {value slice : Expr} (h0 : 0 ≤ i) (h1 : i < l.length) (hz : l.length ≤ 100000) (h : ∀ t' k, Q (.str (S [l.getD i.toNat 0]) t') { s with toks := k })
    (hs : subscripted slice false (.str (S l) t) (.int i u) = operate [.str (S l) t, .int i u] (getItem (.str (S l) t) (.int i u)) := by with_unfolding_all rfl)
    (ht : ∀ r, letTemporaryGo value (.str (S l) t) r = pure () := by intro _; with_unfolding_all rfl) :
    wpAny (model prog w) A (subscriptTail value slice (.str (S l) t) (.int i u)) Q E s :=
  PyProof.Rows.item_str (by simp only [fitsSsize, Bool.not_eq_true', Bool.or_eq_false_iff, decide_eq_false_iff_not]; omega) (by rw [S_length]; omega) (by rw [S_length]; omega) (fun _ => by rw [item_S l h0 h1]; exact h _ _) hs ht

variable {value slice : Expr}
theorem o_to (hF : Fr h₀ L s.heap m) (hN : News h₀ L s.heap news) (hz : l.length ≤ 100000) (h0 : 0 ≤ j) (h : ∀ h' t' k, Fr h₀ L h' m → News h₀ L h' news → Q (.str (S (l.take j.toNat)) t') { s with heap := h', toks := k })
    (hs : subscripted slice false (.str (S l) t) (.ref s.heap.objs.size) = operate [.ref s.heap.objs.size, .str (S l) t] (getItem (.str (S l) t) (.ref s.heap.objs.size)) := by with_unfolding_all rfl)
    (ht : ∀ r, letTemporaryGo value (.str (S l) t) r = pure () := by intro _; with_unfolding_all rfl) :
    wpAny (model prog w) A (subscriptTail value slice (.str (S l) t) (.ref s.heap.objs.size)) Q E { s with heap := s.heap.push { cls := .type "slice", data := .fields #[.none, .int j uj, .none] } } :=
  slice_strN_ns hF hN (by rw [slice_to l h0]; exact h) hs ht (by rw [S_length, sizeLine_eq]; omega)
theorem o_from (hF : Fr h₀ L s.heap m) (hN : News h₀ L s.heap news) (hz : l.length ≤ 100000) (h0 : 0 ≤ i) (h : ∀ h' t' k, Fr h₀ L h' m → News h₀ L h' news → Q (.str (S (l.drop i.toNat)) t') { s with heap := h', toks := k })
    (hs : subscripted slice false (.str (S l) t) (.ref s.heap.objs.size) = operate [.ref s.heap.objs.size, .str (S l) t] (getItem (.str (S l) t) (.ref s.heap.objs.size)) := by with_unfolding_all rfl)
    (ht : ∀ r, letTemporaryGo value (.str (S l) t) r = pure () := by intro _; with_unfolding_all rfl) :
    wpAny (model prog w) A (subscriptTail value slice (.str (S l) t) (.ref s.heap.objs.size)) Q E { s with heap := s.heap.push { cls := .type "slice", data := .fields #[.int i ui, .none, .none] } } :=
  slice_strN_sn hF hN (by rw [slice_from l h0]; exact h) hs ht (by rw [S_length, sizeLine_eq]; omega)
theorem o_mid (hF : Fr h₀ L s.heap m) (hN : News h₀ L s.heap news) (hz : l.length ≤ 100000) (h0 : 0 ≤ i) (hij : i ≤ j) (hj : j ≤ l.length) (h : ∀ h' t' k, Fr h₀ L h' m → News h₀ L h' news → Q (.str (S ((l.take j.toNat).drop i.toNat)) t') { s with heap := h', toks := k })
    (hs : subscripted slice false (.str (S l) t) (.ref s.heap.objs.size) = operate [.ref s.heap.objs.size, .str (S l) t] (getItem (.str (S l) t) (.ref s.heap.objs.size)) := by with_unfolding_all rfl)
    (ht : ∀ r, letTemporaryGo value (.str (S l) t) r = pure () := by intro _; with_unfolding_all rfl) :
    wpAny (model prog w) A (subscriptTail value slice (.str (S l) t) (.ref s.heap.objs.size)) Q E { s with heap := s.heap.push { cls := .type "slice", data := .fields #[.int i ui, .int j uj, .none] } } :=
  slice_strN_ss hF hN (by rw [slice_mid l h0 hij hj]; exact h) hs ht (by rw [S_length, sizeLine_eq]; omega)

theorem b_to (hF : Fr h₀ L s.heap m) (hN : News h₀ L s.heap news) (hz : l.length ≤ 100000) (h0 : 0 ≤ j) (h : ∀ h' t' k, Fr h₀ L h' m → News h₀ L h' news → Q (.bytes (Bt (l.take j.toNat)) t') { s with heap := h', toks := k })
    (hs : subscripted slice false (.bytes (Bt l) t) (.ref s.heap.objs.size) = operate [.ref s.heap.objs.size, .bytes (Bt l) t] (getItem (.bytes (Bt l) t) (.ref s.heap.objs.size)) := by with_unfolding_all rfl)
    (ht : ∀ r, letTemporaryGo value (.bytes (Bt l) t) r = pure () := by intro _; with_unfolding_all rfl) :
    wpAny (model prog w) A (subscriptTail value slice (.bytes (Bt l) t) (.ref s.heap.objs.size)) Q E { s with heap := s.heap.push { cls := .type "slice", data := .fields #[.none, .int j uj, .none] } } :=
  KBc.slice_K hF hN rfl .none (.int _ _) (by rw [KBw.ints_length, Bt_size]; omega) (fun h' t' k F N _ => by rw [picked_to l h0]; exact h h' t' k F N) hs ht
theorem b_from (hF : Fr h₀ L s.heap m) (hN : News h₀ L s.heap news) (hz : l.length ≤ 100000) (h0 : 0 ≤ i) (h : ∀ h' t' k, Fr h₀ L h' m → News h₀ L h' news → Q (.bytes (Bt (l.drop i.toNat)) t') { s with heap := h', toks := k })
    (hs : subscripted slice false (.bytes (Bt l) t) (.ref s.heap.objs.size) = operate [.ref s.heap.objs.size, .bytes (Bt l) t] (getItem (.bytes (Bt l) t) (.ref s.heap.objs.size)) := by with_unfolding_all rfl)
    (ht : ∀ r, letTemporaryGo value (.bytes (Bt l) t) r = pure () := by intro _; with_unfolding_all rfl) :
    wpAny (model prog w) A (subscriptTail value slice (.bytes (Bt l) t) (.ref s.heap.objs.size)) Q E { s with heap := s.heap.push { cls := .type "slice", data := .fields #[.int i ui, .none, .none] } } :=
  KBc.slice_K hF hN rfl (.int _ _) .none (by rw [KBw.ints_length, Bt_size]; omega) (fun h' t' k F N _ => by rw [picked_from l h0]; exact h h' t' k F N) hs ht
theorem b_mid (hF : Fr h₀ L s.heap m) (hN : News h₀ L s.heap news) (hz : l.length ≤ 100000) (h0 : 0 ≤ i) (hij : i ≤ j) (hj : j ≤ l.length) (h : ∀ h' t' k, Fr h₀ L h' m → News h₀ L h' news → Q (.bytes (Bt ((l.take j.toNat).drop i.toNat)) t') { s with heap := h', toks := k })
    (hs : subscripted slice false (.bytes (Bt l) t) (.ref s.heap.objs.size) = operate [.ref s.heap.objs.size, .bytes (Bt l) t] (getItem (.bytes (Bt l) t) (.ref s.heap.objs.size)) := by with_unfolding_all rfl)
    (ht : ∀ r, letTemporaryGo value (.bytes (Bt l) t) r = pure () := by intro _; with_unfolding_all rfl) :
    wpAny (model prog w) A (subscriptTail value slice (.bytes (Bt l) t) (.ref s.heap.objs.size)) Q E { s with heap := s.heap.push { cls := .type "slice", data := .fields #[.int i ui, .int j uj, .none] } } :=
  KBc.slice_K hF hN rfl (.int _ _) (.int _ _) (by rw [KBw.ints_length, Bt_size]; omega) (fun h' t' k F N _ => by rw [picked_mid l h0 hij hj]; exact h h' t' k F N) hs ht

/-! `'/' * n` -/
theorem rep_S (c n : Nat) : (⟨(List.replicate n (S [c]).cps).foldl (· ++ ·) #[]⟩ : Str) = S (List.replicate n c) := by
  have key : ∀ (n : Nat) (acc : List Nat), (List.replicate n (S [c]).cps).foldl (· ++ ·) acc.toArray = (acc ++ List.replicate n c).toArray := by
    intro n
    induction n with
    | zero => intro acc; simp
    | succ n ih =>
      intro acc
      rw [List.replicate_succ, List.foldl_cons]
      have : acc.toArray ++ (S [c]).cps = (acc ++ [c]).toArray := by simp [S]
      rw [this, ih, List.replicate_succ]
      simp
  unfold S
  congr 1
  have := key n []
  simpa [S] using this
theorem o_mul (h0 : 0 ≤ i) (hz : i ≤ 100000) (h : ∀ t' k, Q (.str (S (List.replicate i.toNat c)) t') { s with toks := k }) : wpAny (model prog w) A (binaryOp .Mult (.str (S [c]) t) (.int i u)) Q E s := by
  have hl : (S [c]).length = 1 := rfl
  refine PySem.P.mul_str ?_ ?_ ?_ ?_
  · have a : ¬ i < -(2 ^ 63 : Int) := by omega
    have b : ¬ i ≥ 2 ^ 63 := by omega
    rw [decide_eq_false a, decide_eq_false b]; rfl
  · intro h1 _
    rw [hl]
    have : (1 : Int) ≤ (2 ^ 63 - 1) / i := by
      apply (Int.le_ediv_iff_mul_le (by omega)).mpr
      omega
    omega
  · intro _ _
    rw [hl]
    simp only [PySem.Builtin.Str.tooLong, sizeLine_eq, decide_eq_false_iff_not]
    omega
  · split
    · rename_i h1
      have e : i.toNat = 0 := by omega
      have := h s.toks (s.toks + 1)
      rw [e] at this
      exact ⟨by decide, this⟩
    · split
      · rename_i h1 h2
        have e : i = 1 := by
          rw [hl] at h2
          simpa using h2
        subst e
        exact h t s.toks
      · refine ⟨?_, ?_⟩
        · rw [rep_S, S_length, List.length_replicate, sizeLine_eq]; omega
        · rw [rep_S]; exact h _ _
theorem b_mul (h0 : 0 ≤ i) (hz : i ≤ 100000) (h : ∀ t' k, Q (.bytes (Bt (List.replicate i.toNat c)) t') { s with toks := k }) : wpAny (model prog w) A (binaryOp .Mult (.bytes (Bt [c]) t) (.int i u)) Q E s := by
  refine PySem.W.bytes_mul_any (b := [c.toUInt8]) (by simp) (by omega) (by omega) (by simp) fun t' k => ?_
  have e : ((List.replicate i.toNat [c.toUInt8]).flatten).toArray = Bt (List.replicate i.toNat c) := by
    simp [Bt]
  rw [e]
  exact h t' k

/-! ## kinds at large -/
abbrev tup (vs : List Value) : Obj := { cls := .type "tuple", data := .seq vs.toArray }
variable {o : Bool}
theorem k_len (hz : l.length ≤ 100000) (h : ∀ t' k, Q (.int l.length t') { s with toks := k }) : wpAny (model prog w) A (call (.builtin "len") [kv o l t]) Q E s := by
  cases o
  · exact o_len hz h
  · exact o_blen hz h
theorem k_add (hz : l.length + l2.length ≤ 100000) (h : ∀ t' k, Q (kv o (l ++ l2) t') { s with toks := k }) : wpAny (model prog w) A (binaryOp .Add (kv o l t) (kv o l2 u)) Q E s := by
  cases o
  · exact o_add hz h
  · exact o_badd hz h
theorem k_eq (ha : OK o l) (hb : OK o l2) (h : Q (.bool (decide (l = l2))) s) : wpAny (model prog w) A (compareOp .Eq (kv o l t) (kv o l2 u)) Q E s := by
  cases o
  · exact o_eq h
  · exact o_beq (ha rfl) (hb rfl) h
theorem k_from (hF : Fr h₀ L s.heap m) (hN : News h₀ L s.heap news) (hz : l.length ≤ 100000) (h0 : 0 ≤ i) (h : ∀ h' t' k, Fr h₀ L h' m → News h₀ L h' news → Q (kv o (l.drop i.toNat) t') { s with heap := h', toks := k })
    (hs : subscripted slice false (.str (S l) t) (.ref s.heap.objs.size) = operate [.ref s.heap.objs.size, .str (S l) t] (getItem (.str (S l) t) (.ref s.heap.objs.size)) := by with_unfolding_all rfl)
    (ht : ∀ r, letTemporaryGo value (.str (S l) t) r = pure () := by intro _; with_unfolding_all rfl)
    (hs2 : subscripted slice false (.bytes (Bt l) t) (.ref s.heap.objs.size) = operate [.ref s.heap.objs.size, .bytes (Bt l) t] (getItem (.bytes (Bt l) t) (.ref s.heap.objs.size)) := by with_unfolding_all rfl)
    (ht2 : ∀ r, letTemporaryGo value (.bytes (Bt l) t) r = pure () := by intro _; with_unfolding_all rfl) :
    wpAny (model prog w) A (subscriptTail value slice (kv o l t) (.ref s.heap.objs.size)) Q E { s with heap := s.heap.push { cls := .type "slice", data := .fields #[.int i ui, .none, .none] } } := by
  cases o
  · exact o_from hF hN hz h0 h hs ht
  · exact b_from hF hN hz h0 h hs2 ht2
theorem k_eqAt (ha : OK o l) (hb : OK o l2) : SeqAt.EqAt A s (kv o l t) (kv o l2 u) (decide (l = l2)) := fun prog w E Q h => by
  cases o
  · exact eqBool_str (by rw [s_beq]; exact h)
  · refine PySem.W.eqBool_bytes ?_
    have e : decide ((Bt l).toList = (Bt l2).toList) = decide (l = l2) := by
      rw [Bool.eq_iff_iff, decide_eq_true_eq, decide_eq_true_eq, Bt_toList, Bt_toList]
      exact ⟨map_inj (ha rfl) (hb rfl), fun e => by rw [e]⟩
    rw [e]; exact h
theorem k_ne_tup {a1 a2 b1 b2 : List Nat} {x y : Addr} {t1 t2 u1 u2 : Tok} (N : News h₀ L s.heap news) (hx : (x, tup [kv o a1 t1, kv o a2 t2]) ∈ news) (hy : (y, tup [kv o b1 u1, kv o b2 u2]) ∈ news)
    (ha1 : OK o a1) (ha2 : OK o a2) (hb1 : OK o b1) (hb2 : OK o b2) (hu : A.units + 1 < cLine) (h : Q (.bool (!decide (a1 = b1 ∧ a2 = b2))) s) : wpAny (model prog w) A (compareOp .NotEq (.ref x) (.ref y)) Q E s := by
  refine cmp_ofNotEq ?_
  have hxx := N.isTup hx
  have hyy := N.isTup hy
  refine SeqAt.RcNeAt.tuples (A := A) (s := s) (e := fun j => if j = 0 then decide (a1 = b1) else decide (a2 = b2)) hxx hyy (by omega) ?_ prog w E Q ?_
  · intro j h1 h2
    rcases j with _ | _ | j
    · exact k_eqAt ha1 hb1
    · exact k_eqAt ha2 hb2
    · simp at h1; omega
  · have e : (!((List.range (min #[kv o a1 t1, kv o a2 t2].size #[kv o b1 u1, kv o b2 u2].size)).all (fun j => if j = 0 then decide (a1 = b1) else decide (a2 = b2)) && #[kv o a1 t1, kv o a2 t2].size == #[kv o b1 u1, kv o b2 u2].size)) = (!decide (a1 = b1 ∧ a2 = b2)) := by
      simp [List.range_succ, Bool.decide_and]
    rw [← e] at h
    exact h
end
end Mine
namespace Mine
open PySem.Builtin
theorem sz_take {l : List Nat} {n k : Nat} (h : l.length ≤ n) : (l.take k).length ≤ n := by rw [List.length_take]; omega
theorem sz_drop {l : List Nat} {n k : Nat} (h : l.length ≤ n) : (l.drop k).length ≤ n := by rw [List.length_drop]; omega
theorem len_dropWhile (p : Nat → Bool) (l : List Nat) : (l.dropWhile p).length ≤ l.length := by
  rw [← dropWhile_drop, List.length_drop]; omega
theorem sz_lstr {l : List Nat} {n c : Nat} (h : l.length ≤ n) : (lstr c l).length ≤ n := Nat.le_trans (len_dropWhile _ _) h
theorem sz_rstr {l : List Nat} {n c : Nat} (h : l.length ≤ n) : (rstr c l).length ≤ n := by
  unfold rstr
  rw [List.length_reverse]
  exact Nat.le_trans (len_dropWhile _ _) (by rw [List.length_reverse]; exact h)

section
variable {M : Model} {A : Around} {E : Value → Shared → Prop} {s : Shared} {h₀ : Heap} {L : Addr} {news : List (Addr × Obj)} {name : Str} {scope : Scope} {a : Addr} {cd : Value} {es : List (Str × Value)} {x : Str} {Q : Unit → Shared → Prop}
theorem gen_int {i : Int} {t : Tok} {env : Env} (h : ∀ t, wpAny M A (storeName env x (.int i t)) Q E s) : wpAny M A (storeName env x (.int i t)) Q E s := h t
theorem gen_str {i : Str} {t : Tok} {env : Env} (h : ∀ t, wpAny M A (storeName env x (.str i t)) Q E s) : wpAny M A (storeName env x (.str i t)) Q E s := h t
theorem gen_bytes {i : Array UInt8} {t : Tok} {env : Env} (h : ∀ t, wpAny M A (storeName env x (.bytes i t)) Q E s) : wpAny M A (storeName env x (.bytes i t)) Q E s := h t
theorem gen_kv {o : Bool} {l : List Nat} {t : Tok} {env : Env} (h : ∀ t, wpAny M A (storeName env x (kv o l t)) Q E s) : wpAny M A (storeName env x (kv o l t)) Q E s := h t
theorem st_any {v : Value} {es' : List (Str × Value)} (F : Fr h₀ L s.heap (mp es)) (N : News h₀ L s.heap news) (P : Put x v es es')
    (h : ∀ h' k, Fr h₀ L h' (mp es') → News h₀ L h' news → Q () { s with heap := h', toks := k })
    (hk : scope.kind = .function := by rfl) (hl : (envOf name scope L a cd).kindOf x = some .local := by rfl) : wpAny M A (storeName (envOf name scope L a cd) x v) Q E s :=
  st_mp F N P (fun h' F' N' => h h' _ F' N') hk hl
end

/-! ## Loops by their whole state -/
def WhPost {σ : Type} (h₀ : Heap) (L : Addr) (s : Shared) (es : σ → List (Str × Value)) (nx : σ → List (Addr × Obj)) (I : σ → Prop) (μ : σ → Nat) (Q : Flow → Shared → Prop) (c : σ) (f : Flow) (s₃ : Shared) : Prop :=
  match f with
  | .ret v => Q (.ret v) s₃
  | .brk => Q .next s₃
  | _ => ∃ c' h' tk, s₃ = { s with heap := h', toks := tk } ∧ Fr h₀ L h' (mp (es c')) ∧ News h₀ L h' (nx c') ∧ I c' ∧ μ c' < μ c
section
variable {prog : Program} {w : World} {A : Around} {E : Value → Shared → Prop} {Q : Flow → Shared → Prop} {s : Shared} {env : Env} {h₀ : Heap} {L : Addr}
theorem while_mp {σ : Type} {test : Expr} {body : List Stmt} {pos : Pos} (es : σ → List (Str × Value)) (nx : σ → List (Addr × Obj)) (I : σ → Prop) (μ : σ → Nat) (c₀ : σ)
    (F : Fr h₀ L s.heap (mp (es c₀))) (N : News h₀ L s.heap (nx c₀)) (h0 : I c₀)
    (turn : ∀ c h tk, Fr h₀ L h (mp (es c)) → News h₀ L h (nx c) → I c →
      wpAny (model prog w) A (isTrue test env (eval test env)) (fun b s₂ =>
        if b = true then wpAny (model prog w) A (execs body env) (WhPost h₀ L s es nx I μ Q c) E s₂ else Q .next s₂) E { s with heap := h, toks := tk })
    (hE : PassesOwn (model prog w) A env E := by passes_own) :
    wpAny (model prog w) A (exec (.While test body [] pos) env) Q E s := by
  refine While_inv2 (fun n m nx' => ∃ c : σ, m = mp (es c) ∧ nx' = nx c ∧ μ c = n ∧ I c) F N ⟨c₀, rfl, rfl, rfl, h0⟩ ?_ hE
  rintro n m₁ nx₁ h tk F₁ N₁ ⟨c, rfl, rfl, rfl, hi⟩
  refine wpAny_mono (turn c h tk F₁ N₁ hi) (fun b s₂ p => ?_) fun _ _ x => x
  cases b with
  | false => simpa using p
  | true =>
    simp only [if_true] at p ⊢
    refine wpAny_mono p (fun f s₃ q => ?_) fun _ _ x => x
    cases f with
    | ret v => exact q
    | brk => exact q
    | next =>
      obtain ⟨c', h', tk', rfl, F', N', hi', hm⟩ := q
      exact ⟨h', tk', _, _, _, rfl, F', N', hm, c', rfl, rfl, rfl, hi'⟩
    | cont =>
      obtain ⟨c', h', tk', rfl, F', N', hi', hm⟩ := q
      exact ⟨h', tk', _, _, _, rfl, F', N', hm, c', rfl, rfl, rfl, hi'⟩
end

/-- What a call of the text's def at `f` does: it ends, hands back `v`, and leaves the frames as they were, the ledger grown to `news'`. -/
def Ct (w : World) (f : Addr) (vs : List Value) (Ret : List (Addr × Obj) → Value → List (Addr × Obj) → Prop) : Prop :=
  ∀ (p : Program) (loose : List Str) (mean : ExcName → Option Value) (mg mb : Str → Option Value)
    (dp un : Nat) (gd : Option (List Code)) (cn : Str) (cs : Scope) (a : Addr) (ccd : Value) (cl : List (Str × Addr)) (outer : List Env) (A₀ : Around) (base h₀ : Heap) (L : Addr) (m : Str → Option Value) (news : List (Addr × Obj)) (s : Shared)
    (Q E : Value → Shared → Prop),
    Below A₀ base outer h₀ → Fr h₀ L s.heap m → (hd.heap_39 w.params).In h₀ → News h₀ L s.heap news → Top p loose mean mg mb h₀ → cs.kind = .function → dp + 10 < 1000 → un + 200 < 9900 →
    (∀ v news' h' tk', Ret news v news' → Fr h₀ L h' m → News h₀ L h' news' → Q v { s with heap := h', toks := tk' }) →
    wpAny (model PySem.Challenge.rw_ab6010_01.row.prog w) (ktrTop dp un gd cn cs L a ccd cl outer) (call (.ref f) vs) Q E s
end Mine
namespace Mine
open PySem.Builtin PyProof.Rows.LCg PyProof.Rows.LCt

/-! ## Comprehensions over a text or a list -/
section
variable {prog : Program} {w : World} {A : Around} {E : Value → Shared → Prop} {s : Shared} {h₀ : Heap} {L : Addr} {m : Str → Option Value} {env : Env}

def Elt (h₀ : Heap) (L : Addr) (m : Str → Option Value) (s : Shared) (nx : List (Addr × Obj)) (G : Value → Prop) (y : Value) (s' : Shared) : Prop :=
  ∃ h' tk', s' = { s with heap := h', toks := tk' } ∧ Fr h₀ L h' m ∧ News h₀ L h' nx ∧ G y

theorem rest_of {elt : Expr} {x : Str} {scope : Scope} {cl : List (Str × Addr)} {S : List (Addr × Obj) → Prop} {P : Nat → Value → Prop} {Fin : List Value → List (Addr × Obj) → Prop} {news : List (Addr × Obj)} (G : Nat → Value → Prop) (n : Nat) (hS : S news)
    (turn : ∀ i v I oI C oC D ys m₂ h tk (E' : Value → Shared → Prop), P i v → NsObj oC m₂ → m₂ x = some v → Fr h₀ L h m → News h₀ L h ((I, oI) :: (C, oC) :: (D, lst ys) :: news) →
      wpAny (model prog w) A (eval elt (compEnvC scope cl C env)) (Elt h₀ L m s ((I, oI) :: (C, oC) :: (D, lst ys) :: news) (G i)) E' { s with heap := h, toks := tk })
    (fin : ∀ ys : List Value, ys.length = n → (∀ j y, ys[j]? = some y → G j y) → Fin ys news) :
    ∀ k i ys, i + k = n → ys.length = i → (∀ j y, ys[j]? = some y → G j y) → CompRest prog w A h₀ L m env elt x scope cl s S P Fin k i ys news := by
  intro k
  induction k with
  | zero => intro i ys hi hl hg; exact CompRest.zero (fin ys (by omega) hg)
  | succ k ih =>
    intro i ys hi hl hg
    refine CompRest.succ fun v I oI C oC D m₂ h tk E' hv hC hx F N off ne => ?_
    refine wpAny_mono (turn i v I oI C oC D ys m₂ h tk E' hv hC hx F N) (fun y s' hy => ?_) fun _ _ e => e
    obtain ⟨h', tk', rfl, F', N', hG⟩ := hy
    refine CompEnd.intro (s₁ := { s with heap := h, toks := tk }) F' N' news (fun p hp => hp) off hS (ih (i + 1) (ys ++ [y]) (by omega) (by simp [hl]) fun j z hz => ?_)
    rw [List.getElem?_append] at hz
    split at hz
    · exact hg j z hz
    · rename_i hj
      have : j - ys.length = 0 := by
        have := (List.getElem?_eq_some_iff.mp hz).1
        simp at this; omega
      rw [this] at hz
      have hz' : y = z := by simpa using hz
      have : j = i := by omega
      subst this; subst hz'
      exact hG

theorem str_st {St : Nat → Heap → Prop} {I : Addr} (fr : ∀ i h h', St i h → (∀ b ∈ [I], ∀ o, h.get? b = some o → h'.get? b = some o) → St i h') (i : Nat) (h h' : Heap) (o : Obj) (st : St i h) (e : h.get? I = some o) (e' : h'.get? I = some o) : St i h' :=
  fr i h h' st fun b hb o' q => by
    have hb' : b = I := List.mem_singleton.mp hb
    subst hb'
    rw [e] at q; cases q
    exact e'

def SrcS (h₀ : Heap) (L : Addr) (m : Str → Option Value) (s : Shared) (news : List (Addr × Obj)) (l : List Nat) (xv : Value) (s₁ : Shared) : Prop :=
  (∃ t, xv = .str (S l) t) ∧ Fr h₀ L s₁.heap m ∧ News h₀ L s₁.heap news ∧ ∃ h' tk', s₁ = { s with heap := h', toks := tk' }

theorem ListComp_S {elt iter : Expr} {x : Str} {px : Pos} {scope : Scope} {cl : List (Str × Addr)} {pos : Pos} {Q : Value → Shared → Prop} {l : List Nat} {news : List (Addr × Obj)} (G : Nat → Value → Prop) (hz : l.length ≤ 100000)
    (hclos : closureFor scope env = pure cl) (hcell : ∀ y ∈ scope.names, y.2 ≠ .cell) (hkind : scope.kind = .function)
    (hnames : ∀ y ∈ scope.names, y.2 = .local → scope.names.lookup y.1 = some .local) (hx : scope.names.lookup x = some .local) (hh : A.handled = none)
    (h : wpAny (model prog w) A (eval iter env) (SrcS h₀ L m s news l) E s)
    (turn : ∀ i v I oI C oC D ys m₂ h tk (E' : Value → Shared → Prop), (∃ c t, l[i]? = some c ∧ v = .str (S [c]) t) → NsObj oC m₂ → m₂ x = some v → Fr h₀ L h m → News h₀ L h ((I, oI) :: (C, oC) :: (D, lst ys) :: news) →
      wpAny (model prog w) A (eval elt (compEnvC scope cl C env)) (Elt h₀ L m s ((I, oI) :: (C, oC) :: (D, lst ys) :: news) (G i)) E' { s with heap := h, toks := tk })
    (fin : ∀ D h' tk' (ys : List Value), ys.length = l.length → (∀ j y, ys[j]? = some y → G j y) → Fr h₀ L h' m → News h₀ L h' ((D, lst ys) :: news) → Q (.ref D) { s with heap := h', toks := tk' })
    (hs : ∀ x, foldedSetIterable iter env x = pure x := by intro _; rfl) :
    wpAny (model prog w) A (eval (.ListComp elt [⟨.Name x px, iter, [], 0⟩] scope pos) env) Q E s := by
  rw [eval_ListComp]
  refine wpAny_comprehension_free (use := none) rfl hs hclos hkind hnames (wpAny_mono h (fun xv s₁ h₁ => ?_) fun _ _ e => e)
  obtain ⟨⟨t, rfl⟩, F, N, hh', tk', rfl⟩ := h₁
  have key : ∀ (o : Obj) (St : Nat → Heap → Prop), (∀ i h, St i h → ∃ o, h.get? hh'.objs.size = some o) → Walks prog w A hh'.objs.size [hh'.objs.size] [hh'.objs.size] (S l).cps.size (SignAt (S l)) St → St 0 (hh'.push o) →
      wpAny (model prog w) A (newList []) (fun acc s₃ => wpAny (model prog w) A (newFunctionEnv scope env.globals cl [] env.qual none .none (some env)) (fun cenv s₄ =>
      codeAny (model prog w) A (.compStart (.ListComp elt [⟨.Name x px, iter, [], 0⟩] scope pos) 0 (.ref hh'.objs.size) acc { cenv with scope := relabel scope env }) (compPost (model prog w) A E none Q acc cenv.locals) s₄) E s₃) E { s with heap := hh'.push o, toks := tk' } := by
    intro o St hIo W hst
    have up : ∀ b o', hh'.get? b = some o' → (hh'.push o).get? b = some o' := fun b o' e => Heap.get?_push_of_some _ e
    refine block_U (s₂ := { s with heap := hh'.push o, toks := tk' }) (S := fun _ => True) (Fin := fun ys nx => nx = news ∧ ys.length = l.length ∧ ∀ j y, ys[j]? = some y → G j y) W (by show (S l).length ≤ sizeLine; rw [S_length, sizeLine_eq]; omega) hIo
      (fun i h h' o nw st e e' _ _ _ => str_st W.frame i h h' o st e e') hcell hkind hx hst (fun b hb => ?_)
      (F.keeps up) (N.grown up) (Nat.ne_of_lt F.ns.lt) (next_is_new F) (fun p hp => Nat.ne_of_lt (Heap.lt_size (N p hp).1)) trivial ?_ ?_
    · rw [List.mem_singleton.mp hb]
      show hh'.objs.size < (hh'.push _).objs.size
      rw [Heap.size_push]; exact Nat.lt_succ_self _
    · refine rest_of G (S l).cps.size trivial ?_ ?_ _ 0 [] (Nat.zero_add _) rfl (by simp)
      · intro i v I oI C oC D ys m₂ h tk E' hv hC hx F N
        refine wpAny_mono (turn i v I oI C oC D ys m₂ h tk E' ?_ hC hx F N) (fun y s' hy => ?_) fun _ _ e => e
        · obtain ⟨c, u, hc, rfl⟩ := hv
          exact ⟨c, u, by simpa [S] using hc, rfl⟩
        · obtain ⟨h', tk', rfl, r⟩ := hy
          exact ⟨h', tk', rfl, r⟩
      · intro ys hl hg
        exact ⟨rfl, by rw [hl]; exact S_length l, hg⟩
    · intro D C h tk m' ys news' F' N' o1 hn hC₀ hD₀ hCL hDL hCD offC fin'
      obtain ⟨rfl, hl, hg⟩ := fin'
      refine ⟨m', hn, fun h'' hs'' => fin D h'' tk ys hl hg (F'.change hs'' hCL hC₀) (fun p hp => ?_)⟩
      refine ⟨hs''.extBut _ _ ?_ (N' p hp).1, (N' p hp).2⟩
      rcases List.mem_cons.mp hp with rfl | hp
      · exact Ne.symm hCD
      · exact offC p hp
  cases ha : (S l).cps.all (· < 128)
  · refine wpAny_pyIter_wide ha ?_
    have := key { cls := .type "str_iterator", data := .fields #[.str (S l) t, .int 0 0] } _ (fun i h st => by obtain ⟨o, e, _⟩ := st; exact ⟨o, e⟩) (Walks.strWide hh hh'.objs.size (S l) t) ⟨_, Heap.get?_push_size _ rfl, rfl, rfl⟩
    exact this
  · refine wpAny_pyIter_ascii ha ?_
    have := key { cls := .type "str_ascii_iterator", data := .fields #[.str (S l) t, .int 0 0] } _ (fun i h st => by obtain ⟨o, e, _⟩ := st; exact ⟨o, e⟩) (Walks.strAscii hh hh'.objs.size (S l) t) ⟨_, Heap.get?_push_size _ rfl, rfl, rfl⟩
    exact this

theorem ints_of {l : List Nat} : ∀ {ys : List Value}, ys.length = l.length → (∀ (j : Nat) (y : Value), ys[j]? = some y → ∃ (c : Nat) (t : Tok), l[j]? = some c ∧ y = .int (c : Int) t) → IntsAre ys (l.map fun c : Nat => (c : Int)) := by
  induction l with
  | nil => intro ys hl _; cases ys with | nil => exact .nil | cons _ _ => simp at hl
  | cons a r ih =>
    intro ys hl hg
    cases ys with
    | nil => simp at hl
    | cons y ys =>
      obtain ⟨c, t, hc, rfl⟩ := hg 0 y rfl
      have e : a = c := by simpa using hc
      subst e
      exact .cons _ _ (ih (by simpa using hl) fun j z hz => by simpa using hg (j + 1) z (by simpa using hz))
theorem o_bytes {l : List Nat} {D : Addr} {ys : List Value} {n : Nat} {news : List (Addr × Obj)} {Q : Value → Shared → Prop} (F : Fr h₀ L s.heap m) (N : News h₀ L s.heap news) (hm : (D, ({ cls := .type "list", data := .seq ys.toArray n } : Obj)) ∈ news)
    (hl : ys.length = l.length) (hg : ∀ (j : Nat) (y : Value), ys[j]? = some y → ∃ (c : Nat) (t : Tok), l[j]? = some c ∧ y = .int (c : Int) t) (ho : Oct l) (hz : l.length ≤ 100000) (hh : A.handled = none)
    (h : ∀ h' t k, Fr h₀ L h' m → News h₀ L h' news → Q (.bytes (Bt l) t) { s with heap := h', toks := k }) : wpAny (model prog w) A (call (.type "bytes") [.ref D]) Q E s := by
  refine bytes_K F N (N.isList hm) (ints_of hl hg) ?_ (by rw [hl, sizeLine_eq]; omega) hh fun h' t k F' N' _ => ?_
  · intro n hn
    obtain ⟨c, hc, rfl⟩ := List.mem_map.mp hn
    have := ho c hc
    omega
  · have e : ((l.map fun c : Nat => (c : Int)).map fun n => n.toNat.toUInt8).toArray = Bt l := by
      simp [Bt]
    rw [e]
    exact h h' t k F' N'
end
end Mine
namespace Mine
open PySem.Builtin

/-! ## for over a text -/
def FoPost (h₀ : Heap) (L : Addr) (s : Shared) (J : List (Str × Value) → Prop) (nx : List (Addr × Obj)) (Q : Flow → Shared → Prop) (f : Flow) (s₂ : Shared) : Prop :=
  match f with
  | .ret v => Q (.ret v) s₂
  | .brk => Q .next s₂
  | _ => ∃ h' tk es, s₂ = { s with heap := h', toks := tk } ∧ Fr h₀ L h' (mp es) ∧ News h₀ L h' nx ∧ J es
section
variable {prog : Program} {w : World} {A : Around} {E : Value → Shared → Prop} {s : Shared} {env : Env} {h₀ : Heap} {x : Str} {body : List Stmt} {Q : Flow → Shared → Prop} {news : List (Addr × Obj)}
theorem for_post {J : List (Str × Value) → Prop} {own : List (Addr × Obj)} {f : Flow} {s₁ s₂ : Shared} (h : FoPost h₀ env.locals s₁ J (news ++ own) Q f s₂) :
    InvPostN h₀ env.locals (fun m nx => ∃ es, m = mp es ∧ nx = news ∧ J es) own (news.map (·.1)) s₁ Q f s₂ := by
  have fin : (∃ h' tk es, s₂ = { s₁ with heap := h', toks := tk } ∧ Fr h₀ env.locals h' (mp es) ∧ News h₀ env.locals h' (news ++ own) ∧ J es) → InvEndN h₀ env.locals (fun m nx => ∃ es, m = mp es ∧ nx = news ∧ J es) own (news.map (·.1)) s₁ s₂ := by
    rintro ⟨h', tk, es, rfl, F, N, hj⟩
    exact ⟨h', tk, mp es, news ++ own, news, rfl, F, N, fun p hp => List.mem_append.mpr (.inl hp), fun p hp => List.mem_append.mpr (.inr hp), rfl, es, rfl, rfl, hj⟩
  cases f with
  | ret v => exact h
  | brk => exact h
  | next => exact fin h
  | cont => exact fin h

theorem for_S {l : List Nat} {t : Tok} {es₀ : List (Str × Value)} (J : Nat → List (Str × Value) → Prop) (hh : A.handled = none) (F : Fr h₀ env.locals s.heap (mp es₀)) (N : News h₀ env.locals s.heap news) (hj : J 0 es₀)
    (turn : ∀ i c t es h tk own, l[i]? = some c → J i es → Fr h₀ env.locals h (fun y => if y = x then some (.str (S [c]) t) else mp es y) → News h₀ env.locals h (news ++ own) →
      wpAny (model prog w) A (execs body env) (FoPost h₀ env.locals { s with heap := h, toks := tk } (J (i + 1)) (news ++ own) Q) E { s with heap := h, toks := tk })
    (done : ∀ es h tk, J l.length es → Fr h₀ env.locals h (mp es) → News h₀ env.locals h news → Q .next { s with heap := h, toks := tk }) :
    wpAny (model prog w) A (pyIter (.str (S l) t)) (fun it s₂ => LoopAtV prog w A h₀ env x body Q E it s₂) E s := by
  refine wpAny_pyIter_str fun o St hW hst => ?_
  refine loop_invN (fun i m nx => ∃ es, m = mp es ∧ nx = news ∧ J i es) (hW A hh) ?_ ?_ ?_ ?_ hst (F.push _) (fun p hp => ⟨Heap.get?_push_of_some _ (N p hp).1, (N p hp).2⟩) ⟨es₀, rfl, rfl, hj⟩ ?_ ?_
  · intro hm
    exact absurd F.ns.lt ((List.mem_singleton.mp hm) ▸ Nat.lt_irrefl _)
  · intro b' hb
    rw [List.mem_singleton.mp hb]
    exact next_is_new F
  · intro p hp hI
    exact absurd (Heap.lt_size (N p hp).1) ((List.mem_singleton.mp hI) ▸ Nat.lt_irrefl _)
  · intro p hp hI
    exact absurd (Heap.lt_size (N p hp).1) ((List.mem_singleton.mp hI) ▸ Nat.lt_irrefl _)
  · rintro i v m₁ nx h tk own hi ⟨n, u, hn, rfl⟩ _ hoff ⟨es, rfl, rfl, hj⟩ F₁ N₁
    exact wpAny_mono (turn i n u es h tk own (by simpa [S] using hn) hj F₁ N₁) (fun f s₂ p => for_post p) fun _ _ e => e
  · rintro m₁ nx h tk ⟨es, rfl, rfl, hj⟩ F₁ N₁
    have e : (S l).cps.size = l.length := S_length l
    rw [e] at hj
    exact done es h tk hj F₁ N₁

theorem for_R {r : Addr} {b : Int} {t u v : Tok} {n : Nat} {es₀ : List (Str × Value)} (J : Nat → List (Str × Value) → Prop) (hh : A.handled = none) (hr : IsRange s.heap r 0 b 1 t u v) (hsm : Builtin.Range.small 0 b 1 = true) (hn : Builtin.Range.rangeSize 0 b 1 = ((n : Nat) : Int))
    (F : Fr h₀ env.locals s.heap (mp es₀)) (N : News h₀ env.locals s.heap news) (hj : J 0 es₀)
    (turn : ∀ i t es h tk own, i < n → J i es → Fr h₀ env.locals h (fun y => if y = x then some (.int i t) else mp es y) → News h₀ env.locals h (news ++ own) →
      wpAny (model prog w) A (execs body env) (FoPost h₀ env.locals { s with heap := h, toks := tk } (J (i + 1)) (news ++ own) Q) E { s with heap := h, toks := tk })
    (done : ∀ es h tk, J n es → Fr h₀ env.locals h (mp es) → News h₀ env.locals h news → Q .next { s with heap := h, toks := tk }) :
    wpAny (model prog w) A (pyIter (.ref r)) (fun it s₂ => LoopAtV prog w A h₀ env x body Q E it s₂) E s := by
  refine wpAny_pyIter_range hr hsm ?_
  refine loop_invN (fun i m nx => ∃ es, m = mp es ∧ nx = news ∧ J i es) (LCg.range_walks hh 0 n) ?_ ?_ ?_ ?_ (by show IsRangeIter _ _ _ _ _; rw [hn]; simpa using Heap.get?_push_size _ rfl) (F.push _) (fun p hp => ⟨Heap.get?_push_of_some _ (N p hp).1, (N p hp).2⟩) ⟨es₀, rfl, rfl, hj⟩ ?_ ?_
  · intro hm
    exact absurd F.ns.lt ((List.mem_singleton.mp hm) ▸ Nat.lt_irrefl _)
  · intro b' hb
    rw [List.mem_singleton.mp hb]
    exact next_is_new F
  · intro p hp hI
    exact absurd (Heap.lt_size (N p hp).1) ((List.mem_singleton.mp hI) ▸ Nat.lt_irrefl _)
  · intro p hp hI
    exact absurd (Heap.lt_size (N p hp).1) ((List.mem_singleton.mp hI) ▸ Nat.lt_irrefl _)
  · rintro i v m₁ nx h tk own hi ⟨t', rfl⟩ _ hoff ⟨es, rfl, rfl, hj⟩ F₁ N₁
    rw [Int.zero_add] at F₁
    exact wpAny_mono (turn i t' es h tk own hi hj F₁ N₁) (fun f s₂ p => for_post p) fun _ _ e => e
  · rintro m₁ nx h tk ⟨es, rfl, rfl, hj⟩ F₁ N₁
    exact done es h tk hj F₁ N₁
end
end Mine
namespace Mine
/-- the ending by `b` behind the last `a`: what `_splitext` hands back -/
def spl (a b : Nat) (l : List Nat) : List Nat × List Nat :=
  if lastIx a l < lastIx b l ∧ ((l.take (lastIx b l).toNat).drop (lastIx a l + 1).toNat).any (· != b) = true then (l.take (lastIx b l).toNat, l.drop (lastIx b l).toNat) else (l, [])
theorem one_of {l : List Nat} {f : Int} (h0 : 0 ≤ f) (h1 : f < l.length) : (l.take (f + 1).toNat).drop f.toNat = [l.getD f.toNat 0] := by
  obtain ⟨n, rfl⟩ := Int.eq_ofNat_of_zero_le h0
  have hn : n < l.length := by omega
  have e1 : ((n : Int) + 1).toNat = n + 1 := by omega
  have e2 : n + 1 - n = 1 := by omega
  rw [e1, Int.toNat_natCast, List.drop_take, List.drop_eq_getElem_cons hn, e2, List.take_succ_cons, List.take_zero]
  simp [List.getD, hn]
theorem spl_not {a b : Nat} {l : List Nat} (h : ¬ lastIx a l < lastIx b l) : spl a b l = (l, []) := by
  unfold spl; rw [if_neg (fun x => h x.1)]
theorem spl_cut {a b : Nat} {l : List Nat} {f : Int} (h : lastIx a l < f) (h2 : f < lastIx b l) (hne : ¬ (l.take (f + 1).toNat).drop f.toNat = [b]) : spl a b l = (l.take (lastIx b l).toNat, l.drop (lastIx b l).toNat) := by
  have := lastIx_ge a l
  have hb := lastIx_lt b l
  unfold spl
  rw [if_pos]
  refine ⟨by omega, ?_⟩
  rw [one_of (by omega) (by omega)] at hne
  rw [List.any_eq_true]
  refine ⟨l.getD f.toNat 0, ?_, by simpa using hne⟩
  refine List.mem_of_getElem? (i := f.toNat - (lastIx a l + 1).toNat) ?_
  rw [List.getElem?_drop, List.getElem?_take, if_pos (by omega)]
  have : (lastIx a l + 1).toNat + (f.toNat - (lastIx a l + 1).toNat) = f.toNat := by omega
  rw [this]
  have hn : f.toNat < l.length := by omega
  simp [List.getD, hn]
theorem spl_run {a b : Nat} {l : List Nat} (h : ∀ j : Nat, lastIx a l < j → (j : Int) < lastIx b l → l[j]? = some b) : spl a b l = (l, []) := by
  unfold spl
  rw [if_neg]
  rintro ⟨h1, h2⟩
  rw [List.any_eq_true] at h2
  obtain ⟨c, hc, hne⟩ := h2
  obtain ⟨i, hi⟩ := List.getElem?_of_mem hc
  have := lastIx_ge a l
  rw [List.getElem?_drop, List.getElem?_take] at hi
  split at hi
  · rename_i hlt
    rw [h _ (by omega) (by omega)] at hi
    simp at hne hi
    omega
  · simp at hi
theorem spl_len {a b : Nat} {l : List Nat} {n : Nat} (h : l.length ≤ n) : (spl a b l).1.length ≤ n ∧ (spl a b l).2.length ≤ n := by
  unfold spl
  split
  · exact ⟨sz_take h, sz_drop h⟩
  · exact ⟨h, by simp⟩
theorem spl_oct {a b : Nat} {l : List Nat} (h : Oct l) : Oct (spl a b l).1 ∧ Oct (spl a b l).2 := by
  unfold spl
  split
  · exact ⟨h.take _, h.drop _⟩
  · exact ⟨h, Oct.nil⟩
theorem spl_ret_s {D : Addr} {news : List (Addr × Obj)} {l x y : List Nat} {a b : Nat} {u1 u2 : Tok} (e : spl a b l = (x, y)) :
    ∃ D' u1' u2', Value.ref D = .ref D' ∧ (D, tup [.str (S x) u1, .str (S y) u2]) :: news = (D', tup [.str (S (spl a b l).1) u1', .str (S (spl a b l).2) u2']) :: news := by
  rw [e]; exact ⟨D, u1, u2, rfl, rfl⟩
theorem spl_ret_b {D : Addr} {news : List (Addr × Obj)} {l x y : List Nat} {a b : Nat} {u1 u2 : Tok} (e : spl a b l = (x, y)) :
    ∃ D' u1' u2', Value.ref D = .ref D' ∧ (D, tup [.bytes (Bt x) u1, .bytes (Bt y) u2]) :: news = (D', tup [.bytes (Bt (spl a b l).1) u1', .bytes (Bt (spl a b l).2) u2']) :: news := by
  rw [e]; exact ⟨D, u1, u2, rfl, rfl⟩
end Mine
namespace Mine
open PySem.Builtin
local macro_rules | `(tactic| walk_at "mput") => `(tactic| first | exact Put.nil | with_reducible exact Put.here | (refine' Put.there ?pa ?pb; (case pa => decide); (case pb => walk_at "mput")))
local macro_rules | `(tactic| walk_at "sz") => `(tactic| first | assumption | omega | (refine sz_take ?_; walk_at "sz") | (refine sz_drop ?_; walk_at "sz") | (refine sz_lstr ?_; walk_at "sz") | (refine sz_rstr ?_; walk_at "sz") | (simp only [List.length_take, List.length_drop, List.length_append, List.length_map, List.length_cons, List.length_nil, List.length_replicate]; omega))
local macro_rules | `(tactic| walk_at "ix") => `(tactic| first | omega | (simp only [decide_eq_true_eq, decide_eq_false_iff_not, Bool.not_eq_true] at *; omega) | ((try simp only [Int.fmod_eq_emod_of_nonneg _ (by decide : (0 : Int) ≤ 256), Int.fmod_eq_emod_of_nonneg _ (by decide : (0 : Int) ≤ 7), Int.fmod_eq_emod_of_nonneg _ (by decide : (0 : Int) ≤ 3), Int.fdiv_eq_ediv_of_nonneg _ (by decide : (0 : Int) ≤ 7), Int.fdiv_eq_ediv_of_nonneg _ (by decide : (0 : Int) ≤ 3)] at *); omega))
local macro_rules | `(tactic| walk_at "storeName") => `(tactic| (k_here; (with_reducible show wpAny _ _ (storeName (envOf _ _ _ _ _) _ _) _ _ _); (first | (with_reducible refine gen_int ?_; intro tk') | (with_reducible refine gen_str ?_; intro tk') | (with_reducible refine gen_bytes ?_; intro tk') | (with_reducible refine gen_kv ?_; intro tk') | skip); k_dflt (refine' st_any ?F ?N ?P ?_; (case F => with_reducible assumption); (case N => with_reducible assumption); (case P => walk_at "mput")); intro h' k' F' N'; (try dsimp only); (try k_sweep)))
local macro_rules | `(tactic| walk_at "eval Constant str") => `(tactic| (k_here; (first | refine o_const (l := [47]) (by decide) ?_ | refine o_const (l := [46]) (by decide) ?_ | refine o_const (l := []) (by decide) ?_); intro t' k'))
local macro_rules | `(tactic| walk_at "eval Constant bytes") => `(tactic| (k_here; (first | refine o_bconst (l := [47]) (by decide) ?_ | refine o_bconst (l := [46]) (by decide) ?_); intro t' k'))
local macro_rules | `(tactic| walk_at "call builtin:len") => `(tactic| (k_here; (first | with_reducible refine o_len ?hz ?_ | with_reducible refine o_blen ?hz ?_ | with_reducible refine k_len ?hz ?_); (case hz => walk_at "sz"); intro t' k'))
local macro_rules | `(tactic| walk_at "compareOp Eq") => `(tactic| (k_here; with_reducible refine k_eq ?a ?b ?_; (case a => walk_at "ok"); (case b => walk_at "ok")))
local macro_rules | `(tactic| walk_at "compareOp Eq str str") => `(tactic| (k_here; with_reducible refine o_eq ?_))
local macro_rules | `(tactic| walk_at "compareOp NotEq str str") => `(tactic| (k_here; with_reducible refine o_ne ?_))
local macro_rules | `(tactic| walk_at "compareOp Eq bytes bytes") => `(tactic| (k_here; with_reducible refine o_beq ?a ?b ?_; (case a => walk_at "oct"); (case b => walk_at "oct")))
local macro_rules | `(tactic| walk_at "compareOp NotEq bytes bytes") => `(tactic| (k_here; with_reducible refine o_bne ?a ?b ?_; (case a => walk_at "oct"); (case b => walk_at "oct")))
local macro_rules | `(tactic| walk_at "oct") => `(tactic| first | assumption | (refine Oct.take ?_ _; walk_at "oct") | (refine Oct.drop ?_ _; walk_at "oct") | (refine Oct.rstr ?_ _; walk_at "oct") | (refine Oct.lstr ?_ _; walk_at "oct") | exact Oct.nil | exact Oct.one (by decide) | exact Oct.one (by assumption))
local macro_rules | `(tactic| walk_at "ok") => `(tactic| first | assumption | (intro ho; first | (have := ‹OK _ _› ho; walk_at "oct")))
local macro_rules | `(tactic| walk_at "truthy") => `(tactic| (k_here; (first | with_reducible refine o_truthy ?hz ?_ | with_reducible refine o_btruthy ?hz ?_); (case hz => walk_at "sz"); intro k'))
local macro_rules | `(tactic| walk_at "binaryOp Add") => `(tactic| (k_here; with_reducible refine k_add ?hz ?_; (case hz => walk_at "sz"); intro t' k'))
local macro_rules | `(tactic| walk_at "binaryOp Add str str") => `(tactic| (k_here; with_reducible refine o_add ?hz ?_; (case hz => walk_at "sz"); intro t' k'))
local macro_rules | `(tactic| walk_at "inplaceOp Add str str") => `(tactic| (k_here; with_reducible refine o_iadd ?hz ?_; (case hz => walk_at "sz"); intro t' k'))
local macro_rules | `(tactic| walk_at "compareOp In str str") => `(tactic| (k_here; with_reducible refine o_in ?_))
local macro_rules | `(tactic| walk_at "call builtin:str.rfind") => `(tactic| (k_here; with_reducible refine o_rfind ?_; intro t' k'))
local macro_rules | `(tactic| walk_at "call builtin:bytes.rfind") => `(tactic| (k_here; with_reducible refine b_rfind ?a ?b ?_; (case a => walk_at "oct"); (case b => first | assumption | decide); intro t' k'))
local macro_rules | `(tactic| walk_at "call builtin:bytes.rstrip") => `(tactic| (k_here; with_reducible refine b_rstrip ?a ?b ?c ?_; (case a => walk_at "oct"); (case b => first | assumption | decide); (case c => walk_at "ix"); intro t' k'))
local macro_rules | `(tactic| walk_at "getMethod bytes") => `(tactic| (k_here; first | with_reducible refine b_method_rfind ?_ | with_reducible refine b_method_rstrip ?_))
local macro_rules | `(tactic| walk_at "call builtin:str.strip") => `(tactic| (k_here; with_reducible refine o_strip ?hz ?_; (case hz => walk_at "sz"); intro t' k'))
local macro_rules | `(tactic| walk_at "call builtin:str.lstrip") => `(tactic| (k_here; with_reducible refine o_lstrip ?hz ?_; (case hz => walk_at "sz"); intro t' k'))
local macro_rules | `(tactic| walk_at "call builtin:str.rstrip") => `(tactic| (k_here; with_reducible refine o_rstrip ?hz ?_; (case hz => walk_at "sz"); intro t' k'))
local macro_rules | `(tactic| walk_at "call builtin:ord") => `(tactic| (k_here; with_reducible refine o_ord ?_; intro t' k'))
local macro_rules | `(tactic| walk_at "call builtin:chr") => `(tactic| (k_here; with_reducible refine o_chr ?a ?b ?_; (case a => walk_at "ix"); (case b => walk_at "ix"); intro t' k'))
local macro_rules | `(tactic| walk_at "binaryOp Mult str int") => `(tactic| (k_here; with_reducible refine o_mul ?a ?b ?_; (case a => walk_at "ix"); (case b => walk_at "ix"); intro t' k'))
local macro_rules | `(tactic| walk_at "binaryOp Mult bytes int") => `(tactic| (k_here; with_reducible refine b_mul ?a ?b ?_; (case a => walk_at "ix"); (case b => walk_at "ix"); intro t' k'))
local macro_rules | `(tactic| walk_at "subscriptTail Name Name str int") => `(tactic| (k_here; (with_reducible show wpAny _ _ (subscriptTail _ _ (Value.str (S _) _) (Value.int _ _)) _ _ _); refine o_item ?a ?b ?c ?_; (case a => walk_at "ix"); (case b => walk_at "ix"); (case c => walk_at "sz"); intro t' k'))
local macro_rules | `(tactic| walk_at "subscriptTail") => `(tactic| (k_here; (with_reducible show wpAny _ _ (subscriptTail _ (Expr.Slice _ _ none _) (Value.str (S _) _) (Value.ref _)) _ _ _); (with_reducible rename Fr _ _ _ _ => F'); (with_reducible rename News _ _ _ _ => N'); (first
  | (refine o_to (s := ⟨_, _, _, _, _⟩) F' N' ?hz ?a ?_; (case hz => walk_at "sz"); (case a => walk_at "ix"))
  | (refine o_from (s := ⟨_, _, _, _, _⟩) F' N' ?hz ?a ?_; (case hz => walk_at "sz"); (case a => walk_at "ix"))
  | (refine o_mid (s := ⟨_, _, _, _, _⟩) F' N' ?hz ?a ?b ?c ?_; (case hz => walk_at "sz"); (case a => walk_at "ix"); (case b => walk_at "ix"); (case c => walk_at "ix"))); intro h' t' k' F' N'; (try k_sweep)))
local macro_rules | `(tactic| walk_at "subscriptTail Name Slice str ref") => `(tactic| walk_at "subscriptTail")
local macro_rules | `(tactic| walk_at "subscriptTail") => `(tactic| (k_here; (with_reducible show wpAny _ _ (subscriptTail _ (Expr.Slice _ _ none _) (Value.bytes (Bt _) _) (Value.ref _)) _ _ _); (with_reducible rename Fr _ _ _ _ => F'); (with_reducible rename News _ _ _ _ => N'); (first
  | (refine b_to (s := ⟨_, _, _, _, _⟩) F' N' ?hz ?a ?_; (case hz => walk_at "sz"); (case a => walk_at "ix"))
  | (refine b_from (s := ⟨_, _, _, _, _⟩) F' N' ?hz ?a ?_; (case hz => walk_at "sz"); (case a => walk_at "ix"))
  | (refine b_mid (s := ⟨_, _, _, _, _⟩) F' N' ?hz ?a ?b ?c ?_; (case hz => walk_at "sz"); (case a => walk_at "ix"); (case b => walk_at "ix"); (case c => walk_at "ix"))); intro h' t' k' F' N'; (try k_sweep)))
local macro_rules | `(tactic| walk_at "subscriptTail") => `(tactic| (k_here; (with_reducible show wpAny _ _ (subscriptTail _ (Expr.Slice _ _ none _) (kv _ _ _) (Value.ref _)) _ _ _); (with_reducible rename Fr _ _ _ _ => F'); (with_reducible rename News _ _ _ _ => N'); (refine k_from (s := ⟨_, _, _, _, _⟩) F' N' ?hz ?a ?_; (case hz => walk_at "sz"); (case a => walk_at "ix")); intro h' t' k' F' N'; (try k_sweep)))
local macro_rules | `(tactic| walk_at "compareOp NotEq ref ref") => `(tactic| (k_here; with_reducible refine k_ne_tup ?n ?x ?y ?a ?b ?c ?d ?u ?_; (case n => k_asm); (case x => k_mem); (case y => k_mem); (case a => walk_at "ok"); (case b => walk_at "ok"); (case c => walk_at "ok"); (case d => walk_at "ok"); (case u => walk_at "un")))
local macro_rules | `(tactic| walk_at "un") => `(tactic| (have hcL9 := cLine_is; (try simp only [units_in1, units_deeper, Around.mark_units, units_caller]); (try dsimp only [ktrTop] at *); omega))
local macro_rules | `(tactic| walk_at "go1") => `(tactic| first | (k_unfold; (try dsimp only)) | walk1 | (dsimp only; walk1) | (leave1; walk_say "STEP leave1"; try dsimp only))
local macro_rules | `(tactic| walk_at "nowhile") => `(tactic| fail_if_success (with_reducible show wpAny _ _ (exec (Stmt.While _ _ _ _) _) _ _ _))
local macro_rules | `(tactic| walk_at "nofor") => `(tactic| fail_if_success (with_reducible show wpAny _ _ (exec (Stmt.For _ _ _ _ _) _) _ _ _))
local macro_rules | `(tactic| walk_at "nocomp") => `(tactic| fail_if_success (with_reducible show wpAny _ _ (eval (Expr.ListComp _ _ _ _) _) _ _ _))
local macro_rules | `(tactic| walk_at "noiter") => `(tactic| fail_if_success (with_reducible show wpAny _ _ (pyIter _) _ _ _))
local macro_rules | `(tactic| walk_at "go") => `(tactic| repeat' ((walk_at "nowhile"); (walk_at "nofor"); (walk_at "nocomp"); (walk_at "noiter"); (walk_at "go1")))
theorem last_end {l : List Nat} {c : Nat} {k : Int} (h1 : -1 ≤ k) (h2 : k < l.length) (h3 : ∀ j : Nat, k < j → l[j]? ≠ some c) (h4 : k < 0 ∨ l.getD k.toNat 0 = c) : k = lastIx c l := by
  by_cases h0 : 0 ≤ k
  · have hk : k.toNat < l.length := by omega
    have e : l.getD k.toNat 0 = c := by rcases h4 with h | h; omega; exact h
    have := lastIx_uniq c l k.toNat (by rw [← e]; simp [List.getD, hk]) fun j hj => h3 j (by omega)
    omega
  · have : c ∉ l := fun hm => by
      obtain ⟨i, hi⟩ := List.getElem?_of_mem hm
      exact h3 i (by omega) hi
    rw [lastIx_none this]; omega
theorem last_step {l : List Nat} {c : Nat} {k : Int} (h0 : 0 ≤ k) (h2 : k < l.length) (h3 : ∀ j : Nat, k < j → l[j]? ≠ some c) (h4 : [l.getD k.toNat 0] ≠ [c]) : ∀ j : Nat, k - 1 < j → l[j]? ≠ some c := by
  intro j hj e
  by_cases h : k < j
  · exact h3 j h e
  · have : j = k.toNat := by omega
    subst this
    apply h4
    simp [List.getD, e]
theorem ct_last (w : World) (l : List Nat) (c : Nat) (t u : Tok) (hl : l.length ≤ 1000) :
    Ct w 159 [.str (S l) t, .str (S [c]) u] (fun news v news' => (∃ tk, v = .int (lastIx c l) tk) ∧ news' = news) := by
  unfold Ct
  k_fill
  intro p loose mean mg mb dp un gd cn cs a ccd cl outer A₀ base h₀ L m news s Q E B F X N T hk hd hu hret
  refine wpAny_call ?_
  k_dflt cell_enter
  rename_i g' L' h1 FG' F' N' B' X' T'
  have F2 : Fr g' L' h1 (mp [(Str.ofString "sign", .str (S [c]) u), (Str.ofString "text", .str (S l) t)]) := F'
  clear F'
  walk_at "go"
  rename_i F3 N3
  refine while_mp (σ := Int × Tok) (fun c' => [(Str.ofString "sign", .str (S [c]) u), (Str.ofString "text", .str (S l) t), (Str.ofString "k", .int c'.1 c'.2)]) (fun _ => news)
    (fun c' => -1 ≤ c'.1 ∧ c'.1 < l.length ∧ ∀ j : Nat, c'.1 < j → l[j]? ≠ some c) (fun c' => (c'.1 + 1).toNat) (_, _) F3 N3 ?_ ?_
  · refine ⟨by dsimp only; omega, by dsimp only; omega, fun j hj e => ?_⟩
    have := (List.getElem?_eq_some_iff.mp e).1
    dsimp only at hj
    omega
  · rintro ⟨k, tk⟩ h4 tk4 F4 N4 ⟨i1, i2, i3⟩
    dsimp only at F4 N4 i1 i2 i3 ⊢
    clear F3 N3
    walk_at "go"
    · rename_i hk0 _ _ hne _ _ _ F5 N5
      exact ⟨(k - 1, _), _, _, rfl, F5, N5, ⟨by dsimp only; omega, by dsimp only; omega, last_step hk0 i2 i3 hne⟩, by dsimp only; omega⟩
    · rename_i hne kF kN _ _
      exact hret _ _ _ _ ⟨⟨tk, congrArg (fun z => Value.int z tk) (last_end i1 i2 i3 (.inr (by simpa using hne)))⟩, rfl⟩ kF kN
    · rename_i hne tk6 kF kN _ _
      exact hret _ _ _ _ ⟨⟨_, congrArg (fun z => Value.int z _) (last_end i1 i2 i3 (.inl (by omega)))⟩, rfl⟩ kF kN
theorem ct_kind_b (w : World) (l : List Nat) (t : Tok) (hl : l.length ≤ 1000) (ho : Oct l) :
    Ct w 145 [.str (S l) t, .bool true] (fun news v news' => (∃ tk, v = .bytes (Bt l) tk) ∧ news' = news) := by
  unfold Ct
  k_fill
  intro p loose mean mg mb dp un gd cn cs a ccd cl outer A₀ base h₀ L m news s Q E B F X N T hk hd hu hret
  refine wpAny_call ?_
  k_dflt cell_enter
  rename_i g' L' h1 FG' F' N' B' X' T'
  have F2 : Fr g' L' h1 (mp [(Str.ofString "octets", .bool true), (Str.ofString "text", .str (S l) t)]) := F'
  clear F'
  walk_at "go"
  refine ListComp_S (l := l) (h₀ := g') (L := L') (news := news) (m := mp [(Str.ofString "octets", .bool true), (Str.ofString "text", .str (S l) t)]) (fun i y => ∃ (c : Nat) (t : Tok), l[i]? = some c ∧ y = Value.int (c : Int) t) (by omega) (by rfl) (by decide) (by rfl) (by decide) (by rfl) (by rfl) ?_ ?_ ?_
  · walk_at "go"
    exact ⟨⟨_, rfl⟩, F2, N', _, _, rfl⟩
  · rintro i v I oI C oC D ys m₂ h tk E' ⟨c, t, hc, rfl⟩ hC hx F9 N9
    walk_at "go"
    exact ⟨_, _, rfl, F9, N9, c, _, hc, rfl⟩
  · intro D h' tk' ys hyl hyg F9 N9
    walk_at "go"
    refine o_bytes F9 N9 (.head _) hyl hyg ho (by omega) (by rfl) fun h5 t5 k5 F5 N5 => ?_
    walk_at "go"
    rename_i kF kN _ _
    exact hret _ _ _ _ ⟨⟨t5, rfl⟩, rfl⟩ kF (fun p hp => kN p (.tail _ hp))
def exch (c : Nat) : Nat := if c = 47 then 46 else if c = 46 then 47 else c
theorem ct_exchange (w : World) (l : List Nat) (t : Tok) (hl : l.length ≤ 1000) :
    Ct w 152 [.str (S l) t] (fun news v news' => (∃ tk, v = .str (S (l.map exch)) tk) ∧ news' = news) := by
  unfold Ct
  k_fill
  intro p loose mean mg mb dp un gd cn cs a ccd cl outer A₀ base h₀ L m news s Q E B F X N T hk hd hu hret
  refine wpAny_call ?_
  k_dflt cell_enter
  rename_i g' L' h1 FG' F' N' B' X' T'
  have F2 : Fr g' L' h1 (mp [(Str.ofString "text", .str (S l) t)]) := F'
  clear F'
  walk_at "go"
  rename_i F3 N3
  with_unfolding_all refine For_invVF F3 (by exact rfl) (by exact rfl) ?_
  walk_at "go"
  refine for_S (fun i es => ∃ tk rest, es = (Str.ofString "text", .str (S l) t) :: (Str.ofString "whole", .str (S ((l.take i).map exch)) tk) :: rest ∧ (rest = [] ∨ ∃ v, rest = [(Str.ofString "sign", v)])) (by rfl) F3 N3 ⟨_, [], rfl, .inl rfl⟩ ?_ ?_
  · rintro i c u es h tk own hc ⟨tk2, rest, rfl, hrest⟩ F4 N4
    have F5 : Fr g' L' h (mp [(Str.ofString "text", .str (S l) t), (Str.ofString "whole", .str (S ((l.take i).map exch)) tk2), (Str.ofString "sign", .str (S [c]) u)]) := by
      rcases hrest with rfl | ⟨v, rfl⟩
      · rw [Put.eq (by walk_at "mput")] at F4; exact F4
      · rw [Put.eq (by walk_at "mput")] at F4; exact F4
    have hil : i < l.length := (List.getElem?_eq_some_iff.mp hc).1
    have hst : (l.take (i + 1)).map exch = (l.take i).map exch ++ [exch c] := by rw [List.take_add_one, hc]; simp
    have hlen : ((l.take i).map exch).length ≤ 1000 := by rw [List.length_map, List.length_take]; omega
    have N5 : News g' L' h (news ++ own) := N4
    clear F4 N4 hrest F3 N3
    walk_at "go"
    · rename_i hc1 _ _ _ _ tk6 _ _ F6 N6
      refine ⟨_, _, _, rfl, F6, N6, tk6, [(Str.ofString "sign", .str (S [c]) u)], ?_, .inr ⟨_, rfl⟩⟩
      obtain rfl : c = 47 := by simpa using hc1
      rw [hst]; rfl
    · rename_i hc1 _ _ hc2 _ _ _ _ tk6 _ _ F6 N6
      refine ⟨_, _, _, rfl, F6, N6, tk6, [(Str.ofString "sign", .str (S [c]) u)], ?_, .inr ⟨_, rfl⟩⟩
      obtain rfl : c = 46 := by simpa using hc2
      rw [hst]; rfl
    · rename_i hc1 _ _ hc2 _ _ tk6 _ _ F6 N6
      refine ⟨_, _, _, rfl, F6, N6, tk6, [(Str.ofString "sign", .str (S [c]) u)], ?_, .inr ⟨_, rfl⟩⟩
      have e : exch c = c := by
        have h1 : c ≠ 47 := by simpa using hc1
        have h2 : c ≠ 46 := by simpa using hc2
        simp [exch, h1, h2]
      rw [hst, e]
  · rintro es h tk ⟨tk2, rest, rfl, hrest⟩ F4 N4
    rw [List.take_length] at F4
    have F5 := (show Fr g' L' h _ from F4)
    have N5 : News g' L' h news := N4
    clear F3 N3 F4 N4
    walk_at "go"
    rename_i kF kN _ _
    exact hret _ _ _ _ ⟨⟨_, rfl⟩, rfl⟩ kF kN
theorem ct_kind_s (w : World) (l : List Nat) (t : Tok) :
    Ct w 145 [.str (S l) t, .bool false] (fun news v news' => (∃ tk, v = .str (S l) tk) ∧ news' = news) := by
  unfold Ct
  k_fill
  intro p loose mean mg mb dp un gd cn cs a ccd cl outer A₀ base h₀ L m news s Q E B F X N T hk hd hu hret
  refine wpAny_call ?_
  k_dflt cell_enter
  rename_i g' L' h1 FG' F' N' B' X' T'
  have F2 : Fr g' L' h1 (mp [(Str.ofString "octets", .bool false), (Str.ofString "text", .str (S l) t)]) := F'
  clear F'
  walk_at "go"
  exact hret _ _ _ _ ⟨⟨_, rfl⟩, rfl⟩ (by assumption) (by assumption)
theorem ct_splitext_s (w : World) (l : List Nat) (a b : Nat) (t t1 t2 : Tok) (hl : l.length ≤ 1000) :
    Ct w 108 [.str (S l) t, .str (S [a]) t1, .none, .str (S [b]) t2] (fun news v news' => ∃ D u1 u2, v = .ref D ∧ news' = (D, tup [.str (S (spl a b l).1) u1, .str (S (spl a b l).2) u2]) :: news) := by
  unfold Ct
  k_fill
  intro p loose mean mg mb dp un gd cn cs a' ccd cl outer A₀ base h₀ L m news s Q E B F X N T hk hd hu hret
  refine wpAny_call ?_
  k_dflt cell_enter
  rename_i g' L' h1 FG' F' N' B' X' T'
  have F2 : Fr g' L' h1 (mp [(Str.ofString "extsep", .str (S [b]) t2), (Str.ofString "altsep", .none), (Str.ofString "sep", .str (S [a]) t1), (Str.ofString "p", .str (S l) t)]) := F'
  clear F'
  have ga := lastIx_ge a l
  have lb := lastIx_lt b l
  walk_at "go"
  · rename_i ts _ _ _ _ td _ _ hsd tf h5 k5 F5 N5
    refine while_mp (σ := Int × Tok) (fun c' => [(Str.ofString "extsep", .str (S [b]) t2), (Str.ofString "altsep", .none), (Str.ofString "sep", .str (S [a]) t1), (Str.ofString "p", .str (S l) t), (Str.ofString "sepIndex", .int (lastIx a l) ts), (Str.ofString "dotIndex", .int (lastIx b l) td), (Str.ofString "filenameIndex", .int c'.1 c'.2)]) (fun _ => news)
      (fun c' => lastIx a l < c'.1 ∧ c'.1 ≤ lastIx b l ∧ ∀ j : Nat, lastIx a l < j → (j : Int) < c'.1 → l[j]? = some b) (fun c' => (lastIx b l - c'.1).toNat) (_, _) F5 N5 ?_ ?_
    · refine ⟨by dsimp only; omega, by dsimp only; omega, fun j h1 h2 => ?_⟩
      dsimp only at h2
      omega
    · rintro ⟨f, tk⟩ h6 tk6 F6 N6 ⟨i1, i2, i3⟩
      dsimp only at F6 N6 i1 i2 i3 ⊢
      clear F5 N5
      walk_at "go"
      · dsimp only [WhPost]
        walk_at "go"
        exact hret _ _ _ _ (spl_ret_s (spl_cut i1 (by assumption) (by assumption))) (by assumption) (by assumption)
      · rename_i hlt _ _ _ _ _ heq _ _ _ F7 N7
        refine ⟨(f + 1, _), _, _, rfl, F7, N7, ⟨by dsimp only; omega, by dsimp only; omega, fun j h1 h2 => ?_⟩, by dsimp only; omega⟩
        dsimp only at h2
        by_cases hj : (j : Int) < f
        · exact i3 j h1 hj
        · have : j = f.toNat := by omega
          subst this
          rw [one_of (by omega) (by omega)] at heq
          have hn : f.toNat < l.length := by omega
          have e : l.getD f.toNat 0 = b := by simpa using heq
          rw [← e]; simp [List.getD, hn]
      · exact hret _ _ _ _ (spl_ret_s (spl_run fun j h1 h2 => i3 j h1 (by omega))) (by assumption) (by assumption)
  · exact hret _ _ _ _ (spl_ret_s (spl_not (by assumption))) (by assumption) (by assumption)
theorem ct_splitext_b (w : World) (l : List Nat) (a b : Nat) (t t1 t2 : Tok) (hl : l.length ≤ 1000) (ho : Oct l) (ha : a < 256) (hb : b < 256) :
    Ct w 108 [.bytes (Bt l) t, .bytes (Bt [a]) t1, .none, .bytes (Bt [b]) t2] (fun news v news' => ∃ D u1 u2, v = .ref D ∧ news' = (D, tup [.bytes (Bt (spl a b l).1) u1, .bytes (Bt (spl a b l).2) u2]) :: news) := by
  unfold Ct
  k_fill
  intro p loose mean mg mb dp un gd cn cs a' ccd cl outer A₀ base h₀ L m news s Q E B F X N T hk hd hu hret
  refine wpAny_call ?_
  k_dflt cell_enter
  rename_i g' L' h1 FG' F' N' B' X' T'
  have F2 : Fr g' L' h1 (mp [(Str.ofString "extsep", .bytes (Bt [b]) t2), (Str.ofString "altsep", .none), (Str.ofString "sep", .bytes (Bt [a]) t1), (Str.ofString "p", .bytes (Bt l) t)]) := F'
  clear F'
  have ga := lastIx_ge a l
  have lb := lastIx_lt b l
  walk_at "go"
  · rename_i ts _ _ _ _ td _ _ hsd tf h5 k5 F5 N5
    refine while_mp (σ := Int × Tok) (fun c' => [(Str.ofString "extsep", .bytes (Bt [b]) t2), (Str.ofString "altsep", .none), (Str.ofString "sep", .bytes (Bt [a]) t1), (Str.ofString "p", .bytes (Bt l) t), (Str.ofString "sepIndex", .int (lastIx a l) ts), (Str.ofString "dotIndex", .int (lastIx b l) td), (Str.ofString "filenameIndex", .int c'.1 c'.2)]) (fun _ => news)
      (fun c' => lastIx a l < c'.1 ∧ c'.1 ≤ lastIx b l ∧ ∀ j : Nat, lastIx a l < j → (j : Int) < c'.1 → l[j]? = some b) (fun c' => (lastIx b l - c'.1).toNat) (_, _) F5 N5 ?_ ?_
    · refine ⟨by dsimp only; omega, by dsimp only; omega, fun j h1 h2 => ?_⟩
      dsimp only at h2
      omega
    · rintro ⟨f, tk⟩ h6 tk6 F6 N6 ⟨i1, i2, i3⟩
      dsimp only at F6 N6 i1 i2 i3 ⊢
      clear F5 N5
      walk_at "go"
      · dsimp only [WhPost]
        walk_at "go"
        exact hret _ _ _ _ (spl_ret_b (spl_cut i1 (by assumption) (by assumption))) (by assumption) (by assumption)
      · rename_i hlt _ _ _ _ _ heq _ _ _ F7 N7
        refine ⟨(f + 1, _), _, _, rfl, F7, N7, ⟨by dsimp only; omega, by dsimp only; omega, fun j h1 h2 => ?_⟩, by dsimp only; omega⟩
        dsimp only at h2
        by_cases hj : (j : Int) < f
        · exact i3 j h1 hj
        · have : j = f.toNat := by omega
          subst this
          rw [one_of (by omega) (by omega)] at heq
          have hn : f.toNat < l.length := by omega
          have e : l.getD f.toNat 0 = b := by simpa using heq
          rw [← e]; simp [List.getD, hn]
      · exact hret _ _ _ _ (spl_ret_b (spl_run fun j h1 h2 => i3 j h1 (by omega))) (by assumption) (by assumption)
  · exact hret _ _ _ _ (spl_ret_b (spl_not (by assumption))) (by assumption) (by assumption)
theorem table_item {w : World} {A : Around} {E : Value → Shared → Prop} {s : Shared} {h₀ : Heap} {L : Addr} {m : Str → Option Value} {value slice : PySem.Expr} {k : Int} {u : Tok} {Q : Value → Shared → Prop} (F : Fr h₀ L s.heap m) (X : (hd.heap_39 w.params).In h₀)
    (h0 : 0 ≤ k) (h1 : k < 6) (h : ∀ c t', c < 256 → Q (.str (S [c]) t') s)
    (hs : subscripted slice false (.ref 133) (.int k u) = operate [.ref 133, .int k u] (getItem (.ref 133) (.int k u)) := by with_unfolding_all rfl) :
    wpAny (model PySem.Challenge.rw_ab6010_01.row.prog w) A (subscriptTail value slice (.ref 133) (.int k u)) Q E s := by
  have hk : k = 0 ∨ k = 1 ∨ k = 2 ∨ k = 3 ∨ k = 4 ∨ k = 5 := by omega
  have e47 : Str.ofString "/" = S [47] := by decide
  have e46 : Str.ofString "." = S [46] := by decide
  have e97 : Str.ofString "a" = S [97] := by decide
  have e98 : Str.ofString "b" = S [98] := by decide
  revert X
  k_fill
  intro X
  rcases hk with rfl | rfl | rfl | rfl | rfl | rfl
  · refine' topTup_K F X ?l ?a ?b ?c ?d ?_ hs
    case l => k_is
    case a => decide
    case b => decide
    case c => rfl
    case d => rfl
    rw [e47]; exact h _ _ (by decide)
  · refine' topTup_K F X ?l ?a ?b ?c ?d ?_ hs
    case l => k_is
    case a => decide
    case b => decide
    case c => rfl
    case d => rfl
    rw [e47]; exact h _ _ (by decide)
  · refine' topTup_K F X ?l ?a ?b ?c ?d ?_ hs
    case l => k_is
    case a => decide
    case b => decide
    case c => rfl
    case d => rfl
    rw [e46]; exact h _ _ (by decide)
  · refine' topTup_K F X ?l ?a ?b ?c ?d ?_ hs
    case l => k_is
    case a => decide
    case b => decide
    case c => rfl
    case d => rfl
    rw [e46]; exact h _ _ (by decide)
  · refine' topTup_K F X ?l ?a ?b ?c ?d ?_ hs
    case l => k_is
    case a => decide
    case b => decide
    case c => rfl
    case d => rfl
    rw [e97]; exact h _ _ (by decide)
  · refine' topTup_K F X ?l ?a ?b ?c ?d ?_ hs
    case l => k_is
    case a => decide
    case b => decide
    case c => rfl
    case d => rfl
    rw [e98]; exact h _ _ (by decide)
local macro_rules | `(tactic| walk_at "subscriptTail") => `(tactic| (k_here; (with_reducible show wpAny _ _ (subscriptTail _ _ (Value.ref 133) (Value.int _ _)) _ _ _); (with_reducible rename Fr _ _ _ _ => F'); refine table_item F' ?x ?a ?b ?_; (case x => k_asm); (case a => walk_at "ix"); (case b => walk_at "ix"); intro c' t' hc'))
theorem ct_signs (w : World) (x : Int) (t : Tok) :
    Ct w 140 [.int x t] (fun news v news' => (∃ l tk, v = .str (S l) tk ∧ l.length ≤ 3 ∧ Oct l) ∧ news' = news) := by
  unfold Ct
  k_fill
  intro p loose mean mg mb dp un gd cn cs a ccd cl outer A₀ base h₀ L m news s Q E B F X N T hk hd hu hret
  refine wpAny_call ?_
  k_dflt cell_enter
  rename_i g' L' h1 FG' F' N' B' X' T'
  have F2 : Fr g' L' h1 (mp [(Str.ofString "x", .int x t)]) := F'
  clear F'
  walk_at "go"
  rename_i F3 N3
  with_unfolding_all refine For_invVF F3 (by exact rfl) (by exact rfl) ?_
  walk_at "go"
  rename_i IR F4 N4 _
  have habs : (0 : Int) ≤ if x < 0 then -x else x := by split <;> omega
  generalize (if x < 0 then -x else x) = ax at habs IR F4
  have hm : ax.fmod 3 = ax % 3 := Int.fmod_eq_emod_of_nonneg _ (by decide)
  rw [hm] at IR
  obtain ⟨n, hn⟩ : ∃ n : Nat, ax % 3 + 1 = n := ⟨(ax % 3 + 1).toNat, by omega⟩
  have hn3 : n ≤ 3 := by omega
  rw [hn] at IR
  refine for_R (n := n) (fun i es => ∃ (y : Int) (tk tk2 : Tok) (l : List Nat) (rest : List (Str × Value)), es = (Str.ofString "x", .int x t) :: (Str.ofString "y", .int y tk) :: (Str.ofString "signs", .str (S l) tk2) :: rest ∧ 0 ≤ y ∧ l.length = i ∧ Oct l ∧ (rest = [] ∨ ∃ v, rest = [(Str.ofString "k", v)]))
    (by rfl) IR ?_ ?_ F4 N4 ⟨_, _, _, [], [], rfl, ?_, rfl, Oct.nil, .inl rfl⟩ ?_ ?_
  · have : n = 0 ∨ n = 1 ∨ n = 2 ∨ n = 3 := by omega
    rcases this with rfl | rfl | rfl | rfl <;> decide
  · have : n = 0 ∨ n = 1 ∨ n = 2 ∨ n = 3 := by omega
    rcases this with rfl | rfl | rfl | rfl <;> decide
  · have : ax.fdiv 3 = ax / 3 := Int.fdiv_eq_ediv_of_nonneg _ (by decide)
    rw [this]; omega
  · rintro i u es h tk own hi ⟨y, tk2, tk3, l, rest, rfl, hy, hli, hlo, hrest⟩ F5 N5
    have F6 : Fr g' L' h (mp [(Str.ofString "x", .int x t), (Str.ofString "y", .int y tk2), (Str.ofString "signs", .str (S l) tk3), (Str.ofString "k", .int i u)]) := by
      rcases hrest with rfl | ⟨v, rfl⟩
      · rw [Put.eq (by walk_at "mput")] at F5; exact F5
      · rw [Put.eq (by walk_at "mput")] at F5; exact F5
    have N6 : News g' L' h (news ++ own) := N5
    clear F4 N4 F5 N5 hrest IR
    have hy7 : 0 ≤ y.fdiv 7 := by
      have : y.fdiv 7 = y / 7 := Int.fdiv_eq_ediv_of_nonneg _ (by decide)
      rw [this]; omega
    have hc7 : ((y.fdiv 7).fmod 256).toNat < 256 := by
      have : (y.fdiv 7).fmod 256 = (y.fdiv 7) % 256 := Int.fmod_eq_emod_of_nonneg _ (by decide)
      rw [this]; omega
    walk_at "go"
    · rename_i hlt c6 _ hc6 _ _ tk6 _ _ tk7 _ _ F7 N7
      exact ⟨_, _, _, rfl, F7, N7, y.fdiv 7, tk7, tk6, l ++ [c6], [(Str.ofString "k", .int i u)], rfl, hy7, by simp [hli], hlo.append (Oct.one hc6), .inr ⟨_, rfl⟩⟩
    · rename_i hlt _ _ _ _ tk6 _ _ tk7 _ _ F7 N7
      exact ⟨_, _, _, rfl, F7, N7, y.fdiv 7, tk7, tk6, l ++ [((y.fdiv 7).fmod 256).toNat], [(Str.ofString "k", .int i u)], rfl, hy7, by simp [hli], hlo.append (Oct.one hc7), .inr ⟨_, rfl⟩⟩
  · rintro es h tk ⟨y, tk2, tk3, l, rest, rfl, hy, hli, hlo, hrest⟩ F5 N5
    have F6 := (show Fr g' L' h _ from F5)
    have N6 : News g' L' h news := N5
    clear F4 N4 F5 N5
    walk_at "go"
    rename_i kF kN _ _
    exact hret _ _ _ _ ⟨⟨l, _, rfl, by omega, hlo⟩, rfl⟩ kF kN
theorem ct_kind (w : World) (o : Bool) (l : List Nat) (t : Tok) (hl : l.length ≤ 1000) (ho : OK o l) :
    Ct w 145 [.str (S l) t, .bool o] (fun news v news' => (∃ tk, v = kv o l tk) ∧ news' = news) := by
  cases o
  · exact ct_kind_s w l t
  · exact ct_kind_b w l t hl (ho rfl)
theorem ct_spl (w : World) (o : Bool) (l : List Nat) (a b : Nat) (t t1 t2 : Tok) (hl : l.length ≤ 1000) (ho : OK o l) (ha : a < 256) (hb : b < 256) :
    Ct w 108 [kv o l t, kv o [a] t1, .none, kv o [b] t2] (fun news v news' => ∃ D u1 u2, v = .ref D ∧ news' = (D, tup [kv o (spl a b l).1 u1, kv o (spl a b l).2 u2]) :: news) := by
  cases o
  · exact ct_splitext_s w l a b t t1 t2 hl
  · exact ct_splitext_b w l a b t t1 t2 hl (ho rfl) ha hb
/-- as Ct, of a def that calls defs: with more room -/
def CtN (n : Nat) (w : World) (f : Addr) (vs : List Value) (Ret : List (Addr × Obj) → Value → List (Addr × Obj) → Prop) : Prop :=
  ∀ (p : Program) (loose : List Str) (mean : ExcName → Option Value) (mg mb : Str → Option Value)
    (dp un : Nat) (gd : Option (List Code)) (cn : Str) (cs : Scope) (a : Addr) (ccd : Value) (cl : List (Str × Addr)) (outer : List Env) (A₀ : Around) (base h₀ : Heap) (L : Addr) (m : Str → Option Value) (news : List (Addr × Obj)) (s : Shared)
    (Q E : Value → Shared → Prop),
    Below A₀ base outer h₀ → Fr h₀ L s.heap m → (hd.heap_39 w.params).In h₀ → News h₀ L s.heap news → Top p loose mean mg mb h₀ → cs.kind = .function → dp + n < 1000 → un + 20 * n < 9900 →
    (∀ v news' h' tk', Ret news v news' → Fr h₀ L h' m → News h₀ L h' news' → Q v { s with heap := h', toks := tk' }) →
    wpAny (model PySem.Challenge.rw_ab6010_01.row.prog w) (ktrTop dp un gd cn cs L a ccd cl outer) (call (.ref f) vs) Q E s
theorem ct_use {n : Nat} {w : World} {f : Addr} {vs : List Value} {Ret : List (Addr × Obj) → Value → List (Addr × Obj) → Prop} (C : CtN n w f vs Ret)
    {p : Program} {loose : List Str} {mean : ExcName → Option Value} {mg mb : Str → Option Value}
    {dp un : Nat} {gd : Option (List Code)} {cn : Str} {cs : Scope} {a : Addr} {ccd : Value} {cl : List (Str × Addr)} {outer : List Env} {A₀ : Around} {base h₀ : Heap} {L : Addr} {m : Str → Option Value} {news : List (Addr × Obj)} {s : Shared}
    {Q E : Value → Shared → Prop}
    (B : Below A₀ base outer h₀) (F : Fr h₀ L s.heap m) (X : (hd.heap_39 w.params).In h₀) (N : News h₀ L s.heap news) (T : Top p loose mean mg mb h₀) (hk : cs.kind = .function) (hd : dp + n < 1000) (hu : un + 20 * n < 9900)
    (ret : ∀ v news' h' tk', Ret news v news' → Fr h₀ L h' m → News h₀ L h' news' → Q v { s with heap := h', toks := tk' }) :
    wpAny (model PySem.Challenge.rw_ab6010_01.row.prog w) (ktrTop dp un gd cn cs L a ccd cl outer) (call (.ref f) vs) Q E s :=
  C p loose mean mg mb dp un gd cn cs a ccd cl outer A₀ base h₀ L m news s Q E B F X N T hk hd hu ret
theorem Ct.n {w : World} {f : Addr} {vs : List Value} {Ret : List (Addr × Obj) → Value → List (Addr × Obj) → Prop} (C : Ct w f vs Ret) : CtN 10 w f vs Ret :=
  fun p loose mean mg mb dp un gd cn cs a ccd cl outer A₀ base h₀ L m news s Q E B F X N T hk hd hu ret => C p loose mean mg mb dp un gd cn cs a ccd cl outer A₀ base h₀ L m news s Q E B F X N T hk hd (by omega) ret
theorem use_same {n : Nat} {w : World} {f : Addr} {vs : List Value} {P : Value → Prop} (C : CtN n w f vs (fun news v news' => P v ∧ news' = news))
    {p : Program} {loose : List Str} {mean : ExcName → Option Value} {mg mb : Str → Option Value}
    {dp un : Nat} {gd : Option (List Code)} {cn : Str} {cs : Scope} {a : Addr} {ccd : Value} {cl : List (Str × Addr)} {outer : List Env} {A₀ : Around} {base h₀ : Heap} {L : Addr} {m : Str → Option Value} {news : List (Addr × Obj)} {s : Shared}
    {Q E : Value → Shared → Prop}
    (B : Below A₀ base outer h₀) (F : Fr h₀ L s.heap m) (X : (hd.heap_39 w.params).In h₀) (N : News h₀ L s.heap news) (T : Top p loose mean mg mb h₀) (hk : cs.kind = .function) (hd : dp + n < 1000) (hu : un + 20 * n < 9900)
    (ret : ∀ v h' tk', P v → Fr h₀ L h' m → News h₀ L h' news → Q v { s with heap := h', toks := tk' }) :
    wpAny (model PySem.Challenge.rw_ab6010_01.row.prog w) (ktrTop dp un gd cn cs L a ccd cl outer) (call (.ref f) vs) Q E s :=
  ct_use C B F X N T hk hd hu fun v n9 h' tk' hr F N => by obtain ⟨hp, e⟩ := hr; rw [e] at N; exact ret v h' tk' hp F N
theorem use_tup {n : Nat} {w : World} {f : Addr} {vs : List Value} {o : Bool} {x y : List Nat} (C : CtN n w f vs (fun news v news' => ∃ D u1 u2, v = .ref D ∧ news' = (D, tup [kv o x u1, kv o y u2]) :: news))
    {p : Program} {loose : List Str} {mean : ExcName → Option Value} {mg mb : Str → Option Value}
    {dp un : Nat} {gd : Option (List Code)} {cn : Str} {cs : Scope} {a : Addr} {ccd : Value} {cl : List (Str × Addr)} {outer : List Env} {A₀ : Around} {base h₀ : Heap} {L : Addr} {m : Str → Option Value} {news : List (Addr × Obj)} {s : Shared}
    {Q E : Value → Shared → Prop}
    (B : Below A₀ base outer h₀) (F : Fr h₀ L s.heap m) (X : (hd.heap_39 w.params).In h₀) (N : News h₀ L s.heap news) (T : Top p loose mean mg mb h₀) (hk : cs.kind = .function) (hd : dp + n < 1000) (hu : un + 20 * n < 9900)
    (ret : ∀ D u1 u2 h' tk', Fr h₀ L h' m → News h₀ L h' ((D, tup [kv o x u1, kv o y u2]) :: news) → Q (.ref D) { s with heap := h', toks := tk' }) :
    wpAny (model PySem.Challenge.rw_ab6010_01.row.prog w) (ktrTop dp un gd cn cs L a ccd cl outer) (call (.ref f) vs) Q E s :=
  ct_use C B F X N T hk hd hu fun v n9 h' tk' hr F N => by obtain ⟨D, u1, u2, rfl, e⟩ := hr; rw [e] at N; exact ret D u1 u2 h' tk' F N
theorem OK.take {o : Bool} {l : List Nat} (h : OK o l) (n : Nat) : OK o (l.take n) := fun e => (h e).take n
theorem OK.drop {o : Bool} {l : List Nat} (h : OK o l) (n : Nat) : OK o (l.drop n) := fun e => (h e).drop n
theorem OK.lstr {o : Bool} {l : List Nat} (h : OK o l) (c : Nat) : OK o (lstr c l) := fun e => (h e).lstr c
theorem OK.rstr {o : Bool} {l : List Nat} (h : OK o l) (c : Nat) : OK o (rstr c l) := fun e => (h e).rstr c
theorem OK.append {o : Bool} {l l2 : List Nat} (h : OK o l) (h2 : OK o l2) : OK o (l ++ l2) := fun e => (h e).append (h2 e)
theorem OK.nil {o : Bool} : OK o [] := fun _ => Oct.nil
theorem OK.one {o : Bool} {c : Nat} (h : c < 256) : OK o [c] := fun _ => Oct.one h
theorem exch_lt {c : Nat} (h : c < 256) : exch c < 256 := by unfold exch; split <;> (try split) <;> omega
theorem OK.exch {o : Bool} {l : List Nat} (h : OK o l) : OK o (l.map exch) := fun e c hc => by
  obtain ⟨d, hd, rfl⟩ := List.mem_map.mp hc
  exact exch_lt (h e d hd)
theorem OK.spl1 {o : Bool} {l : List Nat} (h : OK o l) (a b : Nat) : OK o (spl a b l).1 := fun e => (spl_oct (h e)).1
theorem OK.spl2 {o : Bool} {l : List Nat} (h : OK o l) (a b : Nat) : OK o (spl a b l).2 := fun e => (spl_oct (h e)).2
theorem OK.rep {o : Bool} {c : Nat} (h : c < 256) (n : Nat) : OK o (List.replicate n c) := fun _ d hd => by rw [List.eq_of_mem_replicate hd]; exact h
end Mine
namespace Mine
open PySem.Builtin PyProof.Rows.LCg PyProof.Rows.LCt

theorem strs_snoc : ∀ {vs : List Value} {ys : List Str} {y : Str} {t : Tok}, StrsAre vs ys → StrsAre (vs ++ [.str y t]) (ys ++ [y])
  | _, _, _, _, .nil => .cons _ _ .nil
  | _, _, _, _, .cons _ _ r => .cons _ _ (strs_snoc r)
theorem strs_app : ∀ {vs : List Value} {ys : List Str} {ws : List Value} {zs : List Str}, StrsAre vs ys → StrsAre ws zs → StrsAre (vs ++ ws) (ys ++ zs)
  | _, _, _, _, .nil, b => b
  | _, _, _, _, .cons _ _ r, b => .cons _ _ (strs_app r b)
theorem strs_drop : ∀ {vs : List Value} {ys : List Str} (k : Nat), StrsAre vs ys → StrsAre (vs.drop k) (ys.drop k)
  | _, _, 0, a => a
  | _, _, _ + 1, .nil => .nil
  | _, _, k + 1, .cons _ _ r => strs_drop k r
theorem strs_len : ∀ {vs : List Value} {ys : List Str}, StrsAre vs ys → vs.length = ys.length
  | _, _, .nil => rfl
  | _, _, .cons _ _ r => by simp [strs_len r]
theorem strs_at : ∀ {vs : List Value} {ys : List Str} {j : Nat} {v : Value}, StrsAre vs ys → vs[j]? = some v → ∃ y t, ys[j]? = some y ∧ v = .str y t
  | _, _, _, _, .nil, h => by simp at h
  | _, _, 0, _, .cons y t r, h => ⟨y, t, rfl, by simpa using h.symm⟩
  | _, _, j + 1, _, .cons y t r, h => by simpa using strs_at (j := j) r (by simpa using h)
theorem strs_vals : ∀ (l : List (Str × Tok)), StrsAre (strValues l) (l.map (·.1))
  | [] => .nil
  | (y, t) :: r => .cons y t (strs_vals r)

section
variable {prog : Program} {w : World} {A : Around} {E : Value → Shared → Prop} {s : Shared} {h₀ : Heap} {L : Addr} {m : Str → Option Value} {env : Env}

theorem rest_ofT {ct elt : Expr} {x : Str} {scope : Scope} {cl : List (Str × Addr)} {R : List (Addr × Obj) → Prop} {Fin : List Value → List (Addr × Obj) → Prop} {news : List (Addr × Obj)} {l : List Nat} (pz : Nat → Bool) (hR : R news)
    (test : ∀ c t I oI C oC D ys m₂ h tk (E' : Value → Shared → Prop), NsObj oC m₂ → m₂ x = some (.str (S [c]) t) → Fr h₀ L h m → News h₀ L h ((I, oI) :: (C, oC) :: (D, lst ys) :: news) →
      wpAny (model prog w) A (isTrue ct (compEnvC scope cl C env) (eval ct (compEnvC scope cl C env))) (fun ok s' => ok = pz c ∧ ∃ h' tk', s' = { s with heap := h', toks := tk' } ∧ Fr h₀ L h' m ∧ News h₀ L h' ((I, oI) :: (C, oC) :: (D, lst ys) :: news)) E' { s with heap := h, toks := tk })
    (turn : ∀ c t I oI C oC D ys m₂ h tk (E' : Value → Shared → Prop), NsObj oC m₂ → m₂ x = some (.str (S [c]) t) → Fr h₀ L h m → News h₀ L h ((I, oI) :: (C, oC) :: (D, lst ys) :: news) →
      wpAny (model prog w) A (eval elt (compEnvC scope cl C env)) (Elt h₀ L m s ((I, oI) :: (C, oC) :: (D, lst ys) :: news) (fun y => ∃ u, y = .str (S [c]) u)) E' { s with heap := h, toks := tk })
    (fin : ∀ ys : List Value, StrsAre ys ((l.filter pz).map fun c => S [c]) → Fin ys news) :
    ∀ k i ys, i + k = l.length → StrsAre ys (((l.take i).filter pz).map fun c => S [c]) → CompRestT prog w A h₀ L m env ct elt x scope cl s R (SignAt (S l)) Fin k i ys news := by
  intro k
  induction k with
  | zero => intro i ys hi hy; exact CompRestT.zero (fin ys (by rw [List.take_of_length_le (by omega)] at hy; exact hy))
  | succ k ih =>
    intro i ys hi hy
    refine CompRestT.succ fun v I oI C oC D m₂ h tk E' hv hC hx F N off ne => ?_
    obtain ⟨c, u, hc, rfl⟩ := hv
    have hc' : l[i]? = some c := by simpa [S] using hc
    have e : (l.take (i + 1)).filter pz = (l.take i).filter pz ++ if pz c then [c] else [] := by
      rw [List.take_add_one, hc', List.filter_append]
      cases hp : pz c <;> simp [hp]
    refine wpAny_mono (test c u I oI C oC D ys m₂ h tk E' hC hx F N) (fun ok s' hok => ?_) fun _ _ e => e
    obtain ⟨rfl, h1, tk1, rfl, F1, N1⟩ := hok
    cases hp : pz c with
    | true =>
      simp only [if_true]
      refine wpAny_mono (turn c u I oI C oC D ys m₂ h1 tk1 E' hC hx F1 N1) (fun y s' hy' => ?_) fun _ _ e => e
      obtain ⟨h', tk', rfl, F', N', u', rfl⟩ := hy'
      refine CompEnd.intro (s₁ := { s with heap := h, toks := tk }) F' N' news (fun p hp => hp) off hR (ih (i + 1) _ (by omega) ?_)
      rw [e, hp]
      simp only [if_true, List.map_append, List.map_cons, List.map_nil]
      exact strs_snoc hy
    | false =>
      simp only [Bool.false_eq_true, if_false]
      refine CompEnd.intro (s₁ := { s with heap := h, toks := tk }) F1 N1 news (fun p hp => hp) off hR (ih (i + 1) ys (by omega) ?_)
      rw [e, hp]
      simpa using hy

theorem ListComp_ST {ct elt iter : Expr} {x : Str} {px : Pos} {scope : Scope} {cl : List (Str × Addr)} {pos : Pos} {Q : Value → Shared → Prop} {l : List Nat} {news : List (Addr × Obj)} (pz : Nat → Bool) (_F₀ : Fr h₀ L s.heap m) (_N₀ : News h₀ L s.heap news) (hz : l.length ≤ 100000)
    (hclos : closureFor scope env = pure cl) (hcell : ∀ y ∈ scope.names, y.2 ≠ .cell) (hkind : scope.kind = .function)
    (hnames : ∀ y ∈ scope.names, y.2 = .local → scope.names.lookup y.1 = some .local) (hx : scope.names.lookup x = some .local) (hh : A.handled = none)
    (h : wpAny (model prog w) A (eval iter env) (SrcS h₀ L m s news l) E s)
    (test : ∀ c t I oI C oC D ys m₂ h tk (E' : Value → Shared → Prop), NsObj oC m₂ → m₂ x = some (.str (S [c]) t) → Fr h₀ L h m → News h₀ L h ((I, oI) :: (C, oC) :: (D, lst ys) :: news) →
      wpAny (model prog w) A (isTrue ct (compEnvC scope cl C env) (eval ct (compEnvC scope cl C env))) (fun ok s' => ok = pz c ∧ ∃ h' tk', s' = { s with heap := h', toks := tk' } ∧ Fr h₀ L h' m ∧ News h₀ L h' ((I, oI) :: (C, oC) :: (D, lst ys) :: news)) E' { s with heap := h, toks := tk })
    (turn : ∀ c t I oI C oC D ys m₂ h tk (E' : Value → Shared → Prop), NsObj oC m₂ → m₂ x = some (.str (S [c]) t) → Fr h₀ L h m → News h₀ L h ((I, oI) :: (C, oC) :: (D, lst ys) :: news) →
      wpAny (model prog w) A (eval elt (compEnvC scope cl C env)) (Elt h₀ L m s ((I, oI) :: (C, oC) :: (D, lst ys) :: news) (fun y => ∃ u, y = .str (S [c]) u)) E' { s with heap := h, toks := tk })
    (fin : ∀ D h' tk' (ys : List Value), StrsAre ys ((l.filter pz).map fun c => S [c]) → Fr h₀ L h' m → News h₀ L h' ((D, lst ys) :: news) → Q (.ref D) { s with heap := h', toks := tk' })
    (hs : ∀ x, foldedSetIterable iter env x = pure x := by intro _; rfl) :
    wpAny (model prog w) A (eval (.ListComp elt [⟨.Name x px, iter, [ct], 0⟩] scope pos) env) Q E s := by
  rw [eval_ListComp]
  refine wpAny_comprehension_free (use := none) rfl hs hclos hkind hnames (wpAny_mono h (fun xv s₁ h₁ => ?_) fun _ _ e => e)
  obtain ⟨⟨t, rfl⟩, F, N, hh', tk', rfl⟩ := h₁
  have key : ∀ (o : Obj) (St : Nat → Heap → Prop), (∀ i h, St i h → ∃ o, h.get? hh'.objs.size = some o) → Walks prog w A hh'.objs.size [hh'.objs.size] [hh'.objs.size] (S l).cps.size (SignAt (S l)) St → St 0 (hh'.push o) →
      wpAny (model prog w) A (newList []) (fun acc s₃ => wpAny (model prog w) A (newFunctionEnv scope env.globals cl [] env.qual none .none (some env)) (fun cenv s₄ =>
      codeAny (model prog w) A (.compStart (.ListComp elt [⟨.Name x px, iter, [ct], 0⟩] scope pos) 0 (.ref hh'.objs.size) acc { cenv with scope := relabel scope env }) (compPost (model prog w) A E none Q acc cenv.locals) s₄) E s₃) E { s with heap := hh'.push o, toks := tk' } := by
    intro o St hIo W hst
    have up : ∀ b o', hh'.get? b = some o' → (hh'.push o).get? b = some o' := fun b o' e => Heap.get?_push_of_some _ e
    refine block_T (s₂ := { s with heap := hh'.push o, toks := tk' }) (S := fun _ => True) (Fin := fun ys nx => nx = news ∧ StrsAre ys ((l.filter pz).map fun c => S [c])) W (by show (S l).length ≤ sizeLine; rw [S_length, sizeLine_eq]; omega) hIo
      (fun i h h' o nw st e e' _ _ _ => str_st W.frame i h h' o st e e') hcell hkind hx hst (fun b hb => ?_)
      (F.keeps up) (N.grown up) (Nat.ne_of_lt F.ns.lt) (next_is_new F) (fun p hp => Nat.ne_of_lt (Heap.lt_size (N p hp).1)) trivial ?_ ?_
    · rw [List.mem_singleton.mp hb]
      show hh'.objs.size < (hh'.push _).objs.size
      rw [Heap.size_push]; exact Nat.lt_succ_self _
    · refine rest_ofT pz trivial ?_ ?_ (fun ys hy => ⟨rfl, hy⟩) _ 0 [] (by rw [Nat.zero_add]; exact S_length l) (by simpa using StrsAre.nil)
      · intro c u I oI C oC D ys m₂ h tk E' hC hx F N
        exact test c u I oI C oC D ys m₂ h tk E' hC hx F N
      · intro c u I oI C oC D ys m₂ h tk E' hC hx F N
        exact turn c u I oI C oC D ys m₂ h tk E' hC hx F N
    · intro D C h tk m' ys news' F' N' o1 hn hC₀ hD₀ hCL hDL hCD offC fin'
      obtain ⟨rfl, hy⟩ := fin'
      refine ⟨m', hn, fun h'' hs'' => fin D h'' tk ys hy (F'.change hs'' hCL hC₀) (fun p hp => ?_)⟩
      refine ⟨hs''.extBut _ _ ?_ (N' p hp).1, (N' p hp).2⟩
      rcases List.mem_cons.mp hp with rfl | hp
      · exact Ne.symm hCD
      · exact offC p hp
  cases ha : (S l).cps.all (· < 128)
  · refine wpAny_pyIter_wide ha ?_
    have := key { cls := .type "str_iterator", data := .fields #[.str (S l) t, .int 0 0] } _ (fun i h st => by obtain ⟨o, e, _⟩ := st; exact ⟨o, e⟩) (Walks.strWide hh hh'.objs.size (S l) t) ⟨_, Heap.get?_push_size _ rfl, rfl, rfl⟩
    exact this
  · refine wpAny_pyIter_ascii ha ?_
    have := key { cls := .type "str_ascii_iterator", data := .fields #[.str (S l) t, .int 0 0] } _ (fun i h st => by obtain ⟨o, e, _⟩ := st; exact ⟨o, e⟩) (Walks.strAscii hh hh'.objs.size (S l) t) ⟨_, Heap.get?_push_size _ rfl, rfl, rfl⟩
    exact this

/-! ## lists of texts -/
abbrev lst0 (vs : List Value) : Obj := { cls := .type "list", data := .seq vs.toArray }
theorem join_S : ∀ xs : List (List Nat), Str.join (S []) (xs.map S) = S xs.flatten
  | [] => rfl
  | [x] => by simp [Str.join]
  | x :: y :: r => by
    have ih := join_S (y :: r)
    show S x ++ S [] ++ Str.join (S []) ((y :: r).map S) = _
    rw [ih, S_append, S_append]
    simp
theorem joinT (xs : List (List Nat)) : Txt.join (S []) (xs.map S) = S xs.flatten := by
  have := StrLaws.glued_eq_join (S []) (xs.map S)
  rw [join_S] at this
  exact this
variable {news : List (Addr × Obj)} {D D2 : Addr} {ys zs : List Value} {xs ws : List (List Nat)} {Q : Value → Shared → Prop} {t : Tok} {n n2 : Nat}
theorem o_join (N : News h₀ L s.heap news) (hm : (D, ({ cls := .type "list", data := .seq ys.toArray n } : Obj)) ∈ news) (hi : StrsAre ys (xs.map S)) (hz : xs.flatten.length ≤ 1000)
    (h : ∀ t' k, Q (.str (S xs.flatten) t') { s with toks := k }) : wpAny (model prog w) A (call (.builtin "str.join") [.str (S []) t, .ref D]) Q E s := by
  refine join_list (N.isList hm) hi ?_ ?_
  · have e : ((xs.map S).map (·.length)).sum = xs.flatten.length := by
      rw [List.map_map, List.length_flatten]
      congr 1
    have e2 : (S []).length = 0 := rfl
    rw [e, e2]; omega
  · intro t' k
    have e : Txt.join (S []) (xs.map S) = S xs.flatten := joinT xs
    rw [e]; exact h t' k
theorem sz_map {f : Nat → Nat} {l : List Nat} {n : Nat} (h : l.length ≤ n) : (l.map f).length ≤ n := by rw [List.length_map]; exact h
theorem flat1 (l : List Nat) : (l.map fun c => [c]).flatten = l := by induction l with | nil => rfl | cons a l ih => simp [ih]
theorem o_joinD {l : List Nat} {o : Bool} (N : News h₀ L s.heap news) (hm : (D, ({ cls := .type "list", data := .seq ys.toArray n } : Obj)) ∈ news) (hi : StrsAre ys ((l.filter fun c => decide (c ≠ 47)).map fun c => S [c])) (hz : l.length ≤ 100) (ho : OK o l)
    (h : ∀ nm t' k, 47 ∉ nm → nm.length ≤ 100 ∧ (lstr 46 nm).length ≤ nm.length → OK o nm → Q (.str (S nm) t') { s with toks := k }) : wpAny (model prog w) A (call (.builtin "str.join") [.str (S []) t, .ref D]) Q E s := by
  have hl := List.length_filter_le (fun c => decide (c ≠ 47)) l
  refine o_join (xs := (l.filter fun c => decide (c ≠ 47)).map fun c => [c]) N hm (by rw [List.map_map]; exact hi) (by rw [flat1]; omega) fun t' k => ?_
  rw [flat1]
  exact h _ t' k (by simp) ⟨by omega, len_dropWhile _ _⟩ fun e c hc => ho e c ((List.mem_filter.mp hc).1)
theorem o_split {l : List Nat} {c : Nat} {u : Tok} (F : Fr h₀ L s.heap m) (N : News h₀ L s.heap news) (hz : l.length ≤ 1000)
    (h : ∀ ys D h' k, StrsAre ys ((cuts c l).map S) → Fr h₀ L h' m → News h₀ L h' ((D, lst0 ys) :: news) → Q (.ref D) { s with heap := h', toks := k }) :
    wpAny (model prog w) A (call (.builtin "str.split") [.str (S l) t, .str (S [c]) u]) Q E s := by
  refine splitN1 F N (by rfl) (fun l' h' k e F' N' => h (strValues l') _ h' k ?_ F' N') (by rw [S_length, sizeLine_eq]; omega)
  have := strs_vals l'
  rw [e, split_S] at this
  exact this
theorem o_cat (F : Fr h₀ L s.heap m) (N : News h₀ L s.heap news) (hm : (D, ({ cls := .type "list", data := .seq ys.toArray n } : Obj)) ∈ news) (hm2 : (D2, ({ cls := .type "list", data := .seq zs.toArray n2 } : Obj)) ∈ news)
    (hi : StrsAre ys (xs.map S)) (hj : StrsAre zs (ws.map S)) (hz : xs.length + ws.length ≤ 1000)
    (h : ∀ vs D h', StrsAre vs ((xs ++ ws).map S) → Fr h₀ L h' m → News h₀ L h' ((D, lst0 vs) :: news) → Q (.ref D) { s with heap := h' }) :
    wpAny (model prog w) A (binaryOp .Add (.ref D) (.ref D2)) Q E s := by
  refine add_lists F N (N.isList hm) (N.isList hm2) (fun h' F' N' => h (ys ++ zs) _ h' ?_ F' N') ?_
  · rw [List.map_append]; exact strs_app hi hj
  · rw [strs_len hi, strs_len hj, List.length_map, List.length_map, sizeLine_eq]; omega
theorem o_first {value slice : Expr} {u : Tok} {x : List Nat} (N : News h₀ L s.heap news) (hm : (D, ({ cls := .type "list", data := .seq ys.toArray n } : Obj)) ∈ news) (hi : StrsAre ys (xs.map S)) (hx : xs[0]? = some x)
    (h : ∀ t', Q (.str (S x) t') s)
    (hs : subscripted slice false (.ref D) (.int 0 u) = operate [.ref D, .int 0 u] (getItem (.ref D) (.int 0 u)) := by with_unfolding_all rfl) (hg : ∀ r, letTemporaryGo value (.ref D) r = pure () := by intro _; with_unfolding_all rfl) :
    wpAny (model prog w) A (subscriptTail value slice (.ref D) (.int 0 u)) Q E s := by
  cases hi' : ys with
  | nil =>
    have := strs_len hi
    rw [hi'] at this
    cases xs with
    | nil => simp at hx
    | cons _ _ => simp at this
  | cons v r =>
    obtain ⟨y, t', hy, rfl⟩ := strs_at (j := 0) (v := v) hi (by rw [hi']; rfl)
    have e : y = S x := by
      rw [List.getElem?_map, hx] at hy
      simpa using hy.symm
    subst e
    exact item_listL (N.isList hm) (by omega) (by omega) (by rw [hi']; rfl) (h t') hs hg
theorem pick1 (ys : List Value) (h1 : 1 ≤ ys.length) : slicePick ys.toArray (some 1) none none = (ys.drop 1).toArray := by
  have := slicePick_from ys.toArray 1 (by simpa using h1)
  simpa using this
theorem o_rest {value slice : Expr} {u : Tok} (F : Fr h₀ L s.heap m) (N : News h₀ L s.heap news) (hm : (D, ({ cls := .type "list", data := .seq ys.toArray n } : Obj)) ∈ news) (hi : StrsAre ys (xs.map S)) (hz : xs.length ≤ 1000) (hne : 1 ≤ xs.length)
    (h : ∀ vs D h', StrsAre vs ((xs.drop 1).map S) → Fr h₀ L h' m → News h₀ L h' ((D, lst0 vs) :: news) → Q (.ref D) { s with heap := h' })
    (hs : subscripted slice false (.ref D) (.ref s.heap.objs.size) = operate [.ref s.heap.objs.size, .ref D] (getItem (.ref D) (.ref s.heap.objs.size)) := by with_unfolding_all rfl) (hg : ∀ r, letTemporaryGo value (.ref D) r = pure () := by intro _; with_unfolding_all rfl) :
    wpAny (model prog w) A (subscriptTail value slice (.ref D) (.ref s.heap.objs.size)) Q E { s with heap := s.heap.push { cls := .type "slice", data := .fields #[.int 1 u, .none, .none] } } := by
  refine slice_list F N (N.isList hm) (.int _ _) .none (fun h' F' N' => h (ys.drop 1) _ h' ?_ F' ?_) hs hg ?_
  · rw [List.map_drop]; exact strs_drop 1 hi
  · rw [pick1 _ (by have := strs_len hi; rw [List.length_map] at this; omega)] at N'; exact N'
  · have := strs_len hi
    rw [List.length_map] at this
    simp only [List.size_toArray, sizeLine_eq]; omega
theorem o_ne_lists (N : News h₀ L s.heap news) (hm : (D, ({ cls := .type "list", data := .seq ys.toArray n } : Obj)) ∈ news) (hm2 : (D2, ({ cls := .type "list", data := .seq zs.toArray n2 } : Obj)) ∈ news)
    (hi : StrsAre ys (xs.map S)) (hj : StrsAre zs (ws.map S)) (e : xs = ws) (hu : A.units + 1 < cLine) (h : Q (.bool false) s) : wpAny (model prog w) A (compareOp .NotEq (.ref D) (.ref D2)) Q E s := by
  subst e
  refine cmp_ofNotEq ?_
  refine SeqAt.RcNeAt.lists (A := A) (s := s) (e := fun _ => true) (N.isList hm) (N.isList hm2) ?_ (by omega) ?_ prog w E Q ?_
  · simp [strs_len hi, strs_len hj]
  · intro j h1 h2
    obtain ⟨y, t1, hy, e1⟩ := strs_at (j := j) (v := ys.toArray[j]) hi (by simp)
    obtain ⟨y2, t2, hy2, e2⟩ := strs_at (j := j) (v := zs.toArray[j]) hj (by simp)
    rw [hy] at hy2
    cases hy2
    rw [e1, e2]
    intro prog w E Q h
    exact eqBool_str (by simpa using h)
  · have e : (!(List.range ys.toArray.size).all fun _ => true) = false := by simp
    rw [e]; exact h
end
end Mine
namespace Mine
theorem sz_spl1 {a b : Nat} {l : List Nat} {n : Nat} (h : l.length ≤ n) : (spl a b l).1.length ≤ n := (spl_len h).1
theorem sz_spl2 {a b : Nat} {l : List Nat} {n : Nat} (h : l.length ≤ n) : (spl a b l).2.length ≤ n := (spl_len h).2
theorem exch_exch (c : Nat) : exch (exch c) = c := by unfold exch; split <;> (try split) <;> (try split) <;> omega
theorem exch_inj {a b : Nat} (h : exch a = exch b) : a = b := by rw [← exch_exch a, h, exch_exch]
theorem lastIx_map (c : Nat) : ∀ l : List Nat, lastIx (exch c) (l.map exch) = lastIx c l
  | [] => rfl
  | a :: l => by
    simp only [List.map_cons, lastIx, lastIx_map c l]
    by_cases h : a = c
    · simp [h]
    · have : ¬ exch a = exch c := fun e => h (exch_inj e)
      simp [h, this]
/-- the exchange: what `_splitext` tells of the exchanged text with its signs exchanged -/
theorem spl_exch (l : List Nat) : spl 46 47 (l.map exch) = ((spl 47 46 l).1.map exch, (spl 47 46 l).2.map exch) := by
  have e1 : lastIx 46 (l.map exch) = lastIx 47 l := lastIx_map 47 l
  have e2 : lastIx 47 (l.map exch) = lastIx 46 l := lastIx_map 46 l
  unfold spl
  rw [e1, e2]
  have e3 : (((l.map exch).take (lastIx 46 l).toNat).drop (lastIx 47 l + 1).toNat).any (· != 47) = ((l.take (lastIx 46 l).toNat).drop (lastIx 47 l + 1).toNat).any (· != 46) := by
    rw [← List.map_take, ← List.map_drop, List.any_map]
    congr 1
    funext c
    have : (exch c = 47) ↔ c = 46 := ⟨fun e => exch_inj (show exch c = exch 46 from e), fun e => by rw [e]; rfl⟩
    show (exch c != 47) = (c != 46)
    rw [Bool.eq_iff_iff, bne_iff_ne, bne_iff_ne, ne_eq, this]
  rw [e3]
  split
  · simp [List.map_take, List.map_drop]
  · simp
theorem spl_parts (a b : Nat) (l : List Nat) : l.take (spl a b l).1.length = (spl a b l).1 ∧ l.drop (spl a b l).1.length = (spl a b l).2 := by
  unfold spl
  split
  · rename_i h
    have := lastIx_lt b l
    have ha := lastIx_ge a l
    have hn : (l.take (lastIx b l).toNat).length = (lastIx b l).toNat := by rw [List.length_take]; omega
    exact ⟨by rw [hn], by rw [hn]⟩
  · simp
theorem sw_1 (l : List Nat) : (spl 46 47 (l.map exch)).1 = (l.take (spl 47 46 l).1.length).map exch := by
  rw [spl_exch, (spl_parts 47 46 l).1]
theorem sw_2 (l : List Nat) : (spl 46 47 (l.map exch)).2 = (l.drop (spl 47 46 l).1.length).map exch := by
  rw [spl_exch, (spl_parts 47 46 l).2]
end Mine
namespace Mine
theorem kind_isub : builtinKind "issubclass.nested" = none := by decide +kernel
theorem plain_isub : plainId "issubclass.nested" = true := by decide +kernel
theorem args_isub (a b c : Value) : argsOk "issubclass.nested" ⟨[a, b, c], []⟩ := by unfold argsOk; kernel_rfl
section
variable {prog : Program} {w : World} {A : Around} {E : Value → Shared → Prop} {s : Shared}
theorem isub_nested {X Y : String} {v : Bool} {k : Value} {dep : Int} {tk : Tok} {Q : Fin → Shared → Prop} (hk : k = .int dep tk) (hm : typeOf (.type Y) = pure (.type "type"))
    (hself : isSubtype (.type X) (.type Y) = pure v) (hq : Q (.done (.ret (.bool v))) s) :
    wpAny (model prog w) A (Builtin.«issubclass.nested» ⟨[.type X, .type Y, k], []⟩) Q E s := by
  subst hk
  repeat (any_goals (first | assumption | (rw [hself]) | wp_step))
theorem isub_meets {X Y : String} {v : Bool} {dep : Int} {tk : Tok} (hm : typeOf (.type Y) = pure (.type "type")) (hself : isSubtype (.type X) (.type Y) = pure v) :
    Meets (Builtin.«issubclass.nested» ⟨[.type X, .type Y, .int dep tk], []⟩) (fun _ R s => R (.ok (.ret (.bool v))) s) :=
  fun _ _ _ _ _ hs => isub_nested rfl hm hself hs
def SubAll (X : String) : List String → List Bool → Prop
  | [], [] => True
  | Y :: Ys, v :: vs => typeOf (.type Y) = pure (.type "type") ∧ isSubtype (.type X) (.type Y) = pure v ∧ SubAll X Ys vs
  | _, _ => False
theorem isub_items {X : String} {dep : Int} : ∀ (cs : List String) (vs : List Bool) (s : Shared) (Q : Option Fin × Unit → Shared → Prop),
    SubAll X cs vs → (Q (if vs.any _root_.id then some (.done (.ret (.bool true))) else none, ()) s) →
    wpAny (model prog w) A (forIn (cs.map Value.type) ((none : Option Fin), ()) fun c _ => do
      if ← truthy (← call (.builtin "issubclass.nested") [.type X, c, rawInt (dep + 1)]) then
        let r ← ret (.bool true)
        pure (ForInStep.done (some r, ()))
      else pure (ForInStep.yield (none, ()))) Q E s
  | [], [], s, Q, _, h => wpAny_pure h
  | c :: cs, v :: vs, s, Q, ha, h => by
    rw [List.map_cons, List.forIn_cons]
    refine wpAny_bind (wpAny_bind (call_function_meets kind_isub plain_isub F.entry_issubclass_nested (args_isub _ _ _) (isub_meets ha.1 ha.2.1) ?_))
    show wpAny _ _ (truthy (.bool v) >>= _) _ _ _
    refine wpAny_bind (m := truthy (.bool v)) (wpAny_pure ?_)
    cases v with
    | true => exact wpAny_bind (wpAny_pure (wpAny_pure (wpAny_pure h)))
    | false => exact wpAny_pure (isub_items cs vs _ Q ha.2.2 h)
theorem isub_tuple {X : String} {tp : Addr} {cs : List String} {vs : List Bool} {tk : Tok} {Q : Fin → Shared → Prop}
    (htp : s.heap.get? tp = some { cls := .type "tuple", data := .seq (cs.map Value.type).toArray }) (ha : SubAll X cs vs)
    (hq : Q (.done (.ret (.bool (vs.any _root_.id)))) s) : wpAny (model prog w) A (Builtin.«issubclass.nested» ⟨[.type X, .ref tp, .int 0 tk], []⟩) Q E s := by
  obtain ⟨h, g, d, t, os⟩ := s
  have hT2 : (⟨h, g, d, t, os⟩ : Shared).TypeIs (.ref tp) "tuple" := ⟨_, htp, rfl⟩
  have f1 := F.isi_sub_tuple
  repeat (any_goals (first | assumption | wp_step))
  refine wpAny_arrayLoop ?_
  simp only [Option.getD_some, List.toList_toArray]
  refine isub_items (dep := 0) cs vs _ _ ha ?_
  cases hv : vs.any _root_.id with
  | true =>
    simp only [if_true]
    repeat (any_goals (first | assumption | wp_step))
    exact hv ▸ hq
  | false =>
    simp only [Bool.false_eq_true, if_false]
    repeat (any_goals (first | assumption | wp_step))
    exact hv ▸ hq
theorem o_issub {X : String} {tp : Addr} {cs : List String} {vs : List Bool} {Q : Value → Shared → Prop}
    (htp : s.heap.get? tp = some { cls := .type "tuple", data := .seq (cs.map Value.type).toArray }) (ha : SubAll X cs vs)
    (hq : Q (.bool (vs.any _root_.id)) s) : wpAny (model prog w) A (call (.builtin "issubclass") [.type X, .ref tp]) Q E s :=
  call_issubclass (S := fun _ R s => s.heap.get? tp = some { cls := .type "tuple", data := .seq (cs.map Value.type).toArray } ∧ R (.ok (.ret (.bool (vs.any _root_.id)))) s) (fun _ _ _ _ _ hs => issubclass_outer (isub_tuple hs.1 ha hs.2)) ⟨htp, hq⟩
end
theorem type_str : typeOf (.type "str") = pure (.type "type") := by with_reducible first | exact PySem.F.isi_meta_str | kernel_rfl
theorem type_bytes : typeOf (.type "bytes") = pure (.type "type") := by first | exact PySem.F.isi_meta_bytes | kernel_rfl
theorem subs_str : SubAll "str" ["str", "bytes"] [true, false] := ⟨type_str, PySem.F.sub_str_str, type_bytes, by rw [isSubtype_type]; kernel_rfl, trivial⟩
theorem subs_bytes : SubAll "bytes" ["str", "bytes"] [false, true] := ⟨type_str, by rw [isSubtype_type]; kernel_rfl, type_bytes, PySem.F.sub_bytes_bytes, trivial⟩
section
variable {prog : Program} {w : World} {A : Around} {E : Value → Shared → Prop} {s : Shared} {h₀ : Heap} {L : Addr} {news : List (Addr × Obj)} {D : Addr} {Q : Value → Shared → Prop}
theorem issub_s (N : News h₀ L s.heap ((D, { cls := .type "tuple", data := .seq [Value.type "str", Value.type "bytes"].toArray }) :: news)) (hq : Q (.bool true) s) : wpAny (model prog w) A (call (.builtin "issubclass") [.type "str", .ref D]) Q E s :=
  o_issub (cs := ["str", "bytes"]) (vs := [true, false]) (N _ (.head _)).1 subs_str hq
theorem issub_b (N : News h₀ L s.heap ((D, { cls := .type "tuple", data := .seq [Value.type "str", Value.type "bytes"].toArray }) :: news)) (hq : Q (.bool true) s) : wpAny (model prog w) A (call (.builtin "issubclass") [.type "bytes", .ref D]) Q E s :=
  o_issub (cs := ["str", "bytes"]) (vs := [false, true]) (N _ (.head _)).1 subs_bytes hq
end
theorem drop1 {h₀ h : Heap} {L : Addr} {p : Addr × Obj} {news : List (Addr × Obj)} (N : News h₀ L h (p :: news)) : News h₀ L h news := fun q hq => N q (.tail _ hq)
theorem drop2 {h₀ h : Heap} {L : Addr} {p q : Addr × Obj} {news : List (Addr × Obj)} (N : News h₀ L h (p :: q :: news)) : News h₀ L h (p :: news) := fun r hr => by
  rcases List.mem_cons.mp hr with rfl | hr
  · exact N _ (.head _)
  · exact N r (.tail _ (.tail _ hr))
def splitH (l : List Nat) : List Nat :=
  if l.take (lastIx 47 l + 1).toNat ≠ [] ∧ l.take (lastIx 47 l + 1).toNat ≠ List.replicate (l.take (lastIx 47 l + 1).toNat).length 47 then rstr 47 (l.take (lastIx 47 l + 1).toNat) else l.take (lastIx 47 l + 1).toNat
theorem splitH_e {l : List Nat} (h : ¬ l.take (lastIx 47 l + 1).toNat ≠ []) : splitH l = l.take (lastIx 47 l + 1).toNat := by unfold splitH; rw [if_neg (fun x => h x.1)]
theorem splitH_r {l : List Nat} (h : ¬ l.take (lastIx 47 l + 1).toNat ≠ List.replicate (((l.take (lastIx 47 l + 1).toNat).length : Int)).toNat 47) : splitH l = l.take (lastIx 47 l + 1).toNat := by unfold splitH; rw [if_neg (fun x => h x.2)]
theorem splitH_y {l : List Nat} (h : l.take (lastIx 47 l + 1).toNat ≠ []) (h2 : l.take (lastIx 47 l + 1).toNat ≠ List.replicate (((l.take (lastIx 47 l + 1).toNat).length : Int)).toNat 47) : splitH l = rstr 47 (l.take (lastIx 47 l + 1).toNat) := by unfold splitH; rw [if_pos ⟨h, h2⟩]
theorem split_ret_s {D : Addr} {news : List (Addr × Obj)} {l x : List Nat} {u1 u2 : Tok} (e : splitH l = x) :
    ∃ D' u1' u2', Value.ref D = .ref D' ∧ (D, tup [.str (S x) u1, .str (S (l.drop (lastIx 47 l + 1).toNat)) u2]) :: news = (D', tup [.str (S (splitH l)) u1', .str (S (l.drop (lastIx 47 l + 1).toNat)) u2']) :: news := by
  rw [e]; exact ⟨D, u1, u2, rfl, rfl⟩
theorem split_ret_b {D : Addr} {news : List (Addr × Obj)} {l x : List Nat} {u1 u2 : Tok} (e : splitH l = x) :
    ∃ D' u1' u2', Value.ref D = .ref D' ∧ (D, tup [.bytes (Bt x) u1, .bytes (Bt (l.drop (lastIx 47 l + 1).toNat)) u2]) :: news = (D', tup [.bytes (Bt (splitH l)) u1', .bytes (Bt (l.drop (lastIx 47 l + 1).toNat)) u2']) :: news := by
  rw [e]; exact ⟨D, u1, u2, rfl, rfl⟩
theorem Oct.rep {c : Nat} (h : c < 256) (n : Nat) : Oct (List.replicate n c) := fun d hd => by rw [List.eq_of_mem_replicate hd]; exact h
end Mine
namespace Mine
open PySem.Builtin
local macro_rules | `(tactic| walk_at "mput") => `(tactic| first | exact Put.nil | with_reducible exact Put.here | (refine' Put.there ?pa ?pb; (case pa => decide); (case pb => walk_at "mput")))
local macro_rules | `(tactic| walk_at "sz") => `(tactic| first | assumption | omega | (refine sz_take ?_; walk_at "sz") | (refine sz_drop ?_; walk_at "sz") | (refine sz_lstr ?_; walk_at "sz") | (refine sz_rstr ?_; walk_at "sz") | (simp only [List.length_take, List.length_drop, List.length_append, List.length_map, List.length_cons, List.length_nil, List.length_replicate]; omega))
local macro_rules | `(tactic| walk_at "ix") => `(tactic| first | omega | (simp only [decide_eq_true_eq, decide_eq_false_iff_not, Bool.not_eq_true] at *; omega) | ((try simp only [Int.fmod_eq_emod_of_nonneg _ (by decide : (0 : Int) ≤ 256), Int.fmod_eq_emod_of_nonneg _ (by decide : (0 : Int) ≤ 7), Int.fmod_eq_emod_of_nonneg _ (by decide : (0 : Int) ≤ 3), Int.fdiv_eq_ediv_of_nonneg _ (by decide : (0 : Int) ≤ 7), Int.fdiv_eq_ediv_of_nonneg _ (by decide : (0 : Int) ≤ 3)] at *); omega))
local macro_rules | `(tactic| walk_at "storeName") => `(tactic| (k_here; (with_reducible show wpAny _ _ (storeName (envOf _ _ _ _ _) _ _) _ _ _); (first | (with_reducible refine gen_int ?_; intro tk') | (with_reducible refine gen_str ?_; intro tk') | (with_reducible refine gen_bytes ?_; intro tk') | (with_reducible refine gen_kv ?_; intro tk') | skip); k_dflt (refine' st_any ?F ?N ?P ?_; (case F => with_reducible assumption); (case N => with_reducible assumption); (case P => walk_at "mput")); intro h' k' F' N'; (try dsimp only); (try k_sweep)))
local macro_rules | `(tactic| walk_at "eval Constant str") => `(tactic| (k_here; (first | refine o_const (l := [47]) (by decide) ?_ | refine o_const (l := [46]) (by decide) ?_ | refine o_const (l := []) (by decide) ?_); intro t' k'))
local macro_rules | `(tactic| walk_at "eval Constant bytes") => `(tactic| (k_here; (first | refine o_bconst (l := [47]) (by decide) ?_ | refine o_bconst (l := [46]) (by decide) ?_); intro t' k'))
local macro_rules | `(tactic| walk_at "call builtin:len") => `(tactic| (k_here; (first | with_reducible refine o_len ?hz ?_ | with_reducible refine o_blen ?hz ?_ | with_reducible refine k_len ?hz ?_); (case hz => walk_at "sz"); intro t' k'))
local macro_rules | `(tactic| walk_at "compareOp Eq") => `(tactic| (k_here; with_reducible refine k_eq ?a ?b ?_; (case a => walk_at "ok"); (case b => walk_at "ok")))
local macro_rules | `(tactic| walk_at "compareOp Eq str str") => `(tactic| (k_here; with_reducible refine o_eq ?_))
local macro_rules | `(tactic| walk_at "compareOp NotEq str str") => `(tactic| (k_here; with_reducible refine o_ne ?_))
local macro_rules | `(tactic| walk_at "compareOp Eq bytes bytes") => `(tactic| (k_here; with_reducible refine o_beq ?a ?b ?_; (case a => walk_at "oct"); (case b => walk_at "oct")))
local macro_rules | `(tactic| walk_at "compareOp NotEq bytes bytes") => `(tactic| (k_here; with_reducible refine o_bne ?a ?b ?_; (case a => walk_at "oct"); (case b => walk_at "oct")))
local macro_rules | `(tactic| walk_at "oct") => `(tactic| first | assumption | (refine Oct.take ?_ _; walk_at "oct") | (refine Oct.drop ?_ _; walk_at "oct") | (refine Oct.rstr ?_ _; walk_at "oct") | (refine Oct.lstr ?_ _; walk_at "oct") | exact Oct.nil | exact Oct.one (by decide) | exact Oct.one (by assumption))
local macro_rules | `(tactic| walk_at "ok") => `(tactic| first | assumption | exact OK.nil | exact OK.one (by first | assumption | decide) | (refine OK.take ?_ _; walk_at "ok") | (refine OK.drop ?_ _; walk_at "ok") | (refine OK.lstr ?_ _; walk_at "ok") | (refine OK.rstr ?_ _; walk_at "ok") | (refine OK.exch ?_; walk_at "ok") | (refine OK.spl1 ?_ _ _; walk_at "ok") | (refine OK.spl2 ?_ _ _; walk_at "ok") | (exact OK.rep (by first | assumption | decide) _) | (refine OK.append ?_ ?_ <;> walk_at "ok"))
local macro_rules | `(tactic| walk_at "truthy") => `(tactic| (k_here; (first | with_reducible refine o_truthy ?hz ?_ | with_reducible refine o_btruthy ?hz ?_); (case hz => walk_at "sz"); intro k'))
local macro_rules | `(tactic| walk_at "binaryOp Add") => `(tactic| (k_here; with_reducible refine k_add ?hz ?_; (case hz => walk_at "sz"); intro t' k'))
local macro_rules | `(tactic| walk_at "binaryOp Add str str") => `(tactic| (k_here; with_reducible refine o_add ?hz ?_; (case hz => walk_at "sz"); intro t' k'))
local macro_rules | `(tactic| walk_at "inplaceOp Add str str") => `(tactic| (k_here; with_reducible refine o_iadd ?hz ?_; (case hz => walk_at "sz"); intro t' k'))
local macro_rules | `(tactic| walk_at "compareOp In str str") => `(tactic| (k_here; with_reducible refine o_in ?_))
local macro_rules | `(tactic| walk_at "call builtin:str.rfind") => `(tactic| (k_here; with_reducible refine o_rfind ?_; intro t' k'))
local macro_rules | `(tactic| walk_at "call builtin:bytes.rfind") => `(tactic| (k_here; with_reducible refine b_rfind ?a ?b ?_; (case a => walk_at "oct"); (case b => first | assumption | decide); intro t' k'))
local macro_rules | `(tactic| walk_at "call builtin:bytes.rstrip") => `(tactic| (k_here; with_reducible refine b_rstrip ?a ?b ?c ?_; (case a => walk_at "oct"); (case b => first | assumption | decide); (case c => walk_at "ix"); intro t' k'))
local macro_rules | `(tactic| walk_at "getMethod bytes") => `(tactic| (k_here; first | with_reducible refine b_method_rfind ?_ | with_reducible refine b_method_rstrip ?_))
local macro_rules | `(tactic| walk_at "call builtin:str.strip") => `(tactic| (k_here; with_reducible refine o_strip ?hz ?_; (case hz => walk_at "sz"); intro t' k'))
local macro_rules | `(tactic| walk_at "call builtin:str.lstrip") => `(tactic| (k_here; with_reducible refine o_lstrip ?hz ?_; (case hz => walk_at "sz"); intro t' k'))
local macro_rules | `(tactic| walk_at "call builtin:str.rstrip") => `(tactic| (k_here; with_reducible refine o_rstrip ?hz ?_; (case hz => walk_at "sz"); intro t' k'))
local macro_rules | `(tactic| walk_at "call builtin:ord") => `(tactic| (k_here; with_reducible refine o_ord ?_; intro t' k'))
local macro_rules | `(tactic| walk_at "call builtin:chr") => `(tactic| (k_here; with_reducible refine o_chr ?a ?b ?_; (case a => walk_at "ix"); (case b => walk_at "ix"); intro t' k'))
local macro_rules | `(tactic| walk_at "binaryOp Mult str int") => `(tactic| (k_here; with_reducible refine o_mul ?a ?b ?_; (case a => walk_at "ix"); (case b => walk_at "ix"); intro t' k'))
local macro_rules | `(tactic| walk_at "binaryOp Mult bytes int") => `(tactic| (k_here; with_reducible refine b_mul ?a ?b ?_; (case a => walk_at "ix"); (case b => walk_at "ix"); intro t' k'))
local macro_rules | `(tactic| walk_at "subscriptTail Name Name str int") => `(tactic| (k_here; (with_reducible show wpAny _ _ (subscriptTail _ _ (Value.str (S _) _) (Value.int _ _)) _ _ _); refine o_item ?a ?b ?c ?_; (case a => walk_at "ix"); (case b => walk_at "ix"); (case c => walk_at "sz"); intro t' k'))
local macro_rules | `(tactic| walk_at "subscriptTail") => `(tactic| (k_here; (with_reducible show wpAny _ _ (subscriptTail _ (Expr.Slice _ _ none _) (Value.str (S _) _) (Value.ref _)) _ _ _); (with_reducible rename Fr _ _ _ _ => F'); (with_reducible rename News _ _ _ _ => N'); (first
  | (refine o_to (s := ⟨_, _, _, _, _⟩) F' N' ?hz ?a ?_; (case hz => walk_at "sz"); (case a => walk_at "ix"))
  | (refine o_from (s := ⟨_, _, _, _, _⟩) F' N' ?hz ?a ?_; (case hz => walk_at "sz"); (case a => walk_at "ix"))
  | (refine o_mid (s := ⟨_, _, _, _, _⟩) F' N' ?hz ?a ?b ?c ?_; (case hz => walk_at "sz"); (case a => walk_at "ix"); (case b => walk_at "ix"); (case c => walk_at "ix"))); intro h' t' k' F' N'; (try k_sweep)))
local macro_rules | `(tactic| walk_at "subscriptTail Name Slice str ref") => `(tactic| walk_at "subscriptTail")
local macro_rules | `(tactic| walk_at "subscriptTail") => `(tactic| (k_here; (with_reducible show wpAny _ _ (subscriptTail _ (Expr.Slice _ _ none _) (Value.bytes (Bt _) _) (Value.ref _)) _ _ _); (with_reducible rename Fr _ _ _ _ => F'); (with_reducible rename News _ _ _ _ => N'); (first
  | (refine b_to (s := ⟨_, _, _, _, _⟩) F' N' ?hz ?a ?_; (case hz => walk_at "sz"); (case a => walk_at "ix"))
  | (refine b_from (s := ⟨_, _, _, _, _⟩) F' N' ?hz ?a ?_; (case hz => walk_at "sz"); (case a => walk_at "ix"))
  | (refine b_mid (s := ⟨_, _, _, _, _⟩) F' N' ?hz ?a ?b ?c ?_; (case hz => walk_at "sz"); (case a => walk_at "ix"); (case b => walk_at "ix"); (case c => walk_at "ix"))); intro h' t' k' F' N'; (try k_sweep)))
local macro_rules | `(tactic| walk_at "subscriptTail") => `(tactic| (k_here; (with_reducible show wpAny _ _ (subscriptTail _ (Expr.Slice _ _ none _) (kv _ _ _) (Value.ref _)) _ _ _); (with_reducible rename Fr _ _ _ _ => F'); (with_reducible rename News _ _ _ _ => N'); (refine k_from (s := ⟨_, _, _, _, _⟩) F' N' ?hz ?a ?_; (case hz => walk_at "sz"); (case a => walk_at "ix")); intro h' t' k' F' N'; (try k_sweep)))
local macro_rules | `(tactic| walk_at "compareOp NotEq ref ref") => `(tactic| (k_here; with_reducible refine k_ne_tup ?n ?x ?y ?a ?b ?c ?d ?u ?_; (case n => k_asm); (case x => k_mem); (case y => k_mem); (case a => walk_at "ok"); (case b => walk_at "ok"); (case c => walk_at "ok"); (case d => walk_at "ok"); (case u => walk_at "un")))
local macro_rules | `(tactic| walk_at "un") => `(tactic| (have hcL9 := cLine_is; (try simp only [units_in1, units_deeper, Around.mark_units, units_caller]); (try dsimp only [ktrTop] at *); omega))
local macro_rules | `(tactic| walk_at "go1") => `(tactic| first | (k_unfold; (try dsimp only)) | walk1 | (dsimp only; walk1) | (leave1; walk_say "STEP leave1"; try dsimp only))
local macro_rules | `(tactic| walk_at "nowhile") => `(tactic| fail_if_success (with_reducible show wpAny _ _ (exec (Stmt.While _ _ _ _) _) _ _ _))
local macro_rules | `(tactic| walk_at "nofor") => `(tactic| fail_if_success (with_reducible show wpAny _ _ (exec (Stmt.For _ _ _ _ _) _) _ _ _))
local macro_rules | `(tactic| walk_at "nocomp") => `(tactic| fail_if_success (with_reducible show wpAny _ _ (eval (Expr.ListComp _ _ _ _) _) _ _ _))
local macro_rules | `(tactic| walk_at "noiter") => `(tactic| fail_if_success (with_reducible show wpAny _ _ (pyIter _) _ _ _))
local macro_rules | `(tactic| walk_at "go") => `(tactic| repeat' ((walk_at "nowhile"); (walk_at "nofor"); (walk_at "nocomp"); (walk_at "noiter"); (walk_at "go1")))
local macro_rules | `(tactic| walk_at "room") => `(tactic| ((try simp only [depth_in1, depth_deeper, depth_caller]); (try dsimp only [ktrTop] at *); omega))
local macro_rules | `(tactic| walk_at "call ref") => `(tactic| (k_here; (with_reducible show wpAny _ _ (call (Value.ref 159) _ _) _ _ _); k_dflt (refine' use_same (ct_last _ _ _ _ _ ?hl).n ?B ?F ?X ?N ?T ?hk ?hd ?hu ?_); (case hl => walk_at "sz"); (case B => k_asm); (case F => k_asm); (case X => k_asm); (case N => k_asm); (case T => k_asm); (case hk => first | exact rfl | assumption); (case hd => walk_at "room"); (case hu => walk_at "un"); rintro v9 h9 k9 ⟨tk9, e9⟩ F9 N9; subst e9; (try dsimp only); (try k_sweep)))
local macro_rules | `(tactic| walk_at "call ref") => `(tactic| (k_here; (with_reducible show wpAny _ _ (call (Value.ref 152) _ _) _ _ _); k_dflt (refine' use_same (ct_exchange _ _ _ ?hl).n ?B ?F ?X ?N ?T ?hk ?hd ?hu ?_); (case hl => walk_at "sz"); (case B => k_asm); (case F => k_asm); (case X => k_asm); (case N => k_asm); (case T => k_asm); (case hk => first | exact rfl | assumption); (case hd => walk_at "room"); (case hu => walk_at "un"); rintro v9 h9 k9 ⟨tk9, e9⟩ F9 N9; subst e9; (try dsimp only); (try k_sweep)))
local macro_rules | `(tactic| walk_at "call ref") => `(tactic| (k_here; (with_reducible show wpAny _ _ (call (Value.ref 145) _ _) _ _ _); k_dflt (refine' use_same (ct_kind _ _ _ _ ?hl ?ok).n ?B ?F ?X ?N ?T ?hk ?hd ?hu ?_); (case hl => walk_at "sz"); (case ok => walk_at "ok"); (case B => k_asm); (case F => k_asm); (case X => k_asm); (case N => k_asm); (case T => k_asm); (case hk => first | exact rfl | assumption); (case hd => walk_at "room"); (case hu => walk_at "un"); rintro v9 h9 k9 ⟨tk9, e9⟩ F9 N9; subst e9; (try dsimp only); (try k_sweep)))
local macro_rules | `(tactic| walk_at "call ref") => `(tactic| (k_here; (with_reducible show wpAny _ _ (call (Value.ref 140) _ _) _ _ _); k_dflt (refine' use_same (ct_signs _ _ _).n ?B ?F ?X ?N ?T ?hk ?hd ?hu ?_);  (case B => k_asm); (case F => k_asm); (case X => k_asm); (case N => k_asm); (case T => k_asm); (case hk => first | exact rfl | assumption); (case hd => walk_at "room"); (case hu => walk_at "un"); rintro v9 h9 k9 ⟨l9, tk9, e9, hl9, ho9⟩ F9 N9; subst e9; (try dsimp only); (try k_sweep)))
local macro_rules | `(tactic| walk_at "call ref") => `(tactic| (k_here; (with_reducible show wpAny _ _ (call (Value.ref 108) _ _) _ _ _); k_dflt (refine' use_tup (ct_spl _ _ _ _ _ _ _ _ ?hl ?ok ?ha ?hb).n ?B ?F ?X ?N ?T ?hk ?hd ?hu ?_); (case hl => walk_at "sz"); (case ok => walk_at "ok"); (case ha => first | assumption | decide); (case hb => first | assumption | decide); (case B => k_asm); (case F => k_asm); (case X => k_asm); (case N => k_asm); (case T => k_asm); (case hk => first | exact rfl | assumption); (case hd => walk_at "room"); (case hu => walk_at "un"); intro D9 u9 w9 h9 k9 F9 N9; (try dsimp only); (try k_sweep)))
theorem ct_cut (w : World) (o : Bool) (l : List Nat) (c : Nat) (t t1 : Tok) (hl : l.length ≤ 1000) (ho : OK o l) (hc : c < 256) :
    CtN 20 w 166 [.str (S l) t, .str (S [c]) t1, .bool o] (fun news v news' => ∃ D u1 u2, v = .ref D ∧ news' = (D, tup [kv o (spl c 47 l).1 u1, kv o (spl c 47 l).2 u2]) :: news) := by
  unfold CtN
  k_fill
  intro p loose mean mg mb dp un gd cn cs a ccd cl outer A₀ base h₀ L m news s Q E B F X N T hk hd hu hret
  refine wpAny_call ?_
  k_dflt cell_enter
  rename_i g' L' h1 FG' F' N' B' X' T'
  have F2 : Fr g' L' h1 (mp [(Str.ofString "octets", .bool o), (Str.ofString "other", .str (S [c]) t1), (Str.ofString "text", .str (S l) t)]) := F'
  clear F'
  have okc : OK o [c] := fun _ => Oct.one hc
  have ok47 : OK o [47] := fun _ => Oct.one (by decide)
  walk_at "go"
  exact hret _ _ _ _ ⟨_, _, _, rfl, rfl⟩ (by assumption) (by assumption)
def dueL (l : List Nat) : List Nat × List Nat :=
  if rstr 47 (lstr 47 (l.take (if 0 > lastIx 47 l then 0 else lastIx 47 l).toNat)) ≠ [] then (l.take (lastIx 47 l).toNat, l.drop (lastIx 47 l).toNat) else (l, [])
theorem due_pos {l : List Nat} (h : rstr 47 (lstr 47 (l.take (if 0 > lastIx 47 l then 0 else lastIx 47 l).toNat)) ≠ []) : 0 ≤ lastIx 47 l := by
  refine Int.not_lt.mp fun hk => h ?_
  rw [if_pos (by omega)]
  rfl
theorem due_yes {l : List Nat} (h : rstr 47 (lstr 47 (l.take (if 0 > lastIx 47 l then 0 else lastIx 47 l).toNat)) ≠ []) : dueL l = (l.take (lastIx 47 l).toNat, l.drop (lastIx 47 l).toNat) := by
  unfold dueL; rw [if_pos h]
theorem due_no {l : List Nat} (h : ¬ rstr 47 (lstr 47 (l.take (if 0 > lastIx 47 l then 0 else lastIx 47 l).toNat)) ≠ []) : dueL l = (l, []) := by
  unfold dueL; rw [if_neg h]
theorem due_ret {D : Addr} {news : List (Addr × Obj)} {o : Bool} {l x y : List Nat} {u1 u2 : Tok} (e : dueL l = (x, y)) :
    ∃ D' u1' u2', Value.ref D = .ref D' ∧ (D, tup [kv o x u1, kv o y u2]) :: news = (D', tup [kv o (dueL l).1 u1', kv o (dueL l).2 u2']) :: news := by
  rw [e]; exact ⟨D, u1, u2, rfl, rfl⟩
local macro_rules | `(tactic| walk_at "ix") => `(tactic| exact due_pos (by assumption))
theorem ct_due (w : World) (o : Bool) (l : List Nat) (t : Tok) (hl : l.length ≤ 1000) (ho : OK o l) :
    CtN 20 w 173 [.str (S l) t, .bool o] (fun news v news' => ∃ D u1 u2, v = .ref D ∧ news' = (D, tup [kv o (dueL l).1 u1, kv o (dueL l).2 u2]) :: news) := by
  unfold CtN
  k_fill
  intro p loose mean mg mb dp un gd cn cs a ccd cl outer A₀ base h₀ L m news s Q E B F X N T hk hd hu hret
  refine wpAny_call ?_
  k_dflt cell_enter
  rename_i g' L' h1 FG' F' N' B' X' T'
  have F2 : Fr g' L' h1 (mp [(Str.ofString "octets", .bool o), (Str.ofString "text", .str (S l) t)]) := F'
  clear F'
  have ok0 : OK o [] := fun _ => Oct.nil
  walk_at "go"
  · exact hret _ _ _ _ (due_ret (due_yes (by assumption))) (by assumption) (by assumption)
  · exact hret _ _ _ _ (due_ret (due_no (by assumption))) (by assumption) (by assumption)
local macro_rules | `(tactic| walk_at "call builtin:issubclass") => `(tactic| (k_here; (with_reducible rename News _ _ _ _ => N'); k_dflt (first | refine issub_s N' ?_ | refine issub_b N' ?_)))
local macro_rules | `(tactic| walk_at "call type:type") => `(tactic| ((with_reducible show wpAny _ _ (call _ [Value.bytes _ _]) _ _ _); refine call_type_of (Tx := "bytes") rfl (by decide +kernel) ?_))
theorem ct_fspath_s (w : World) (x : Str) (t : Tok) :
    Ct w 101 [.str x t] (fun news v news' => (v = .str x t) ∧ news' = news) := by
  unfold Ct
  k_fill
  intro p loose mean mg mb dp un gd cn cs a ccd cl outer A₀ base h₀ L m news s Q E B F X N T hk hd hu hret
  refine wpAny_call ?_
  k_dflt cell_enter
  rename_i g' L' h1 FG' F' N' B' X' T'
  have F2 : Fr g' L' h1 (mp [(Str.ofString "path", .str x t)]) := F'
  clear F'
  walk_at "go"
  exact hret _ _ _ _ ⟨rfl, rfl⟩ (by assumption) (drop1 (by assumption))
theorem ct_fspath_b (w : World) (x : Array UInt8) (t : Tok) :
    Ct w 101 [.bytes x t] (fun news v news' => (v = .bytes x t) ∧ news' = news) := by
  unfold Ct
  k_fill
  intro p loose mean mg mb dp un gd cn cs a ccd cl outer A₀ base h₀ L m news s Q E B F X N T hk hd hu hret
  refine wpAny_call ?_
  k_dflt cell_enter
  rename_i g' L' h1 FG' F' N' B' X' T'
  have F2 : Fr g' L' h1 (mp [(Str.ofString "path", .bytes x t)]) := F'
  clear F'
  walk_at "go"
  exact hret _ _ _ _ ⟨rfl, rfl⟩ (by assumption) (drop1 (by assumption))
theorem ct_getsep_s (w : World) (x : Str) (t : Tok) :
    Ct w 115 [.str x t] (fun news v news' => (∃ tk, v = .str (S [47]) tk) ∧ news' = news) := by
  unfold Ct
  k_fill
  intro p loose mean mg mb dp un gd cn cs a ccd cl outer A₀ base h₀ L m news s Q E B F X N T hk hd hu hret
  refine wpAny_call ?_
  k_dflt cell_enter
  rename_i g' L' h1 FG' F' N' B' X' T'
  have F2 : Fr g' L' h1 (mp [(Str.ofString "path", .str x t)]) := F'
  clear F'
  walk_at "go"
  exact hret _ _ _ _ ⟨⟨_, rfl⟩, rfl⟩ (by assumption) (by assumption)
theorem ct_getsep_b (w : World) (x : Array UInt8) (t : Tok) :
    Ct w 115 [.bytes x t] (fun news v news' => (∃ tk, v = .bytes (Bt [47]) tk) ∧ news' = news) := by
  unfold Ct
  k_fill
  intro p loose mean mg mb dp un gd cn cs a ccd cl outer A₀ base h₀ L m news s Q E B F X N T hk hd hu hret
  refine wpAny_call ?_
  k_dflt cell_enter
  rename_i g' L' h1 FG' F' N' B' X' T'
  have F2 : Fr g' L' h1 (mp [(Str.ofString "path", .bytes x t)]) := F'
  clear F'
  walk_at "go"
  exact hret _ _ _ _ ⟨⟨_, rfl⟩, rfl⟩ (by assumption) (by assumption)
end Mine
namespace Mine
open PySem.Builtin
local macro_rules | `(tactic| walk_at "mput") => `(tactic| first | exact Put.nil | with_reducible exact Put.here | (refine' Put.there ?pa ?pb; (case pa => decide); (case pb => walk_at "mput")))
local macro_rules | `(tactic| walk_at "sz") => `(tactic| first | assumption | omega | (refine sz_take ?_; walk_at "sz") | (refine sz_drop ?_; walk_at "sz") | (refine sz_lstr ?_; walk_at "sz") | (refine sz_rstr ?_; walk_at "sz") | (simp only [List.length_take, List.length_drop, List.length_append, List.length_map, List.length_cons, List.length_nil, List.length_replicate]; omega))
local macro_rules | `(tactic| walk_at "ix") => `(tactic| first | omega | (simp only [List.length_take, List.length_drop]; omega) | (simp only [decide_eq_true_eq, decide_eq_false_iff_not, Bool.not_eq_true] at *; omega) | ((try simp only [Int.fmod_eq_emod_of_nonneg _ (by decide : (0 : Int) ≤ 256), Int.fmod_eq_emod_of_nonneg _ (by decide : (0 : Int) ≤ 7), Int.fmod_eq_emod_of_nonneg _ (by decide : (0 : Int) ≤ 3), Int.fdiv_eq_ediv_of_nonneg _ (by decide : (0 : Int) ≤ 7), Int.fdiv_eq_ediv_of_nonneg _ (by decide : (0 : Int) ≤ 3)] at *); omega))
local macro_rules | `(tactic| walk_at "storeName") => `(tactic| (k_here; (with_reducible show wpAny _ _ (storeName (envOf _ _ _ _ _) _ _) _ _ _); (first | (with_reducible refine gen_int ?_; intro tk') | (with_reducible refine gen_str ?_; intro tk') | (with_reducible refine gen_bytes ?_; intro tk') | (with_reducible refine gen_kv ?_; intro tk') | skip); k_dflt (refine' st_any ?F ?N ?P ?_; (case F => with_reducible assumption); (case N => with_reducible assumption); (case P => walk_at "mput")); intro h' k' F' N'; (try dsimp only); (try k_sweep)))
local macro_rules | `(tactic| walk_at "eval Constant str") => `(tactic| (k_here; (first | refine o_const (l := [47]) (by decide) ?_ | refine o_const (l := [46]) (by decide) ?_ | refine o_const (l := []) (by decide) ?_); intro t' k'))
local macro_rules | `(tactic| walk_at "eval Constant bytes") => `(tactic| (k_here; (first | refine o_bconst (l := [47]) (by decide) ?_ | refine o_bconst (l := [46]) (by decide) ?_); intro t' k'))
local macro_rules | `(tactic| walk_at "call builtin:len") => `(tactic| (k_here; (first | with_reducible refine o_len ?hz ?_ | with_reducible refine o_blen ?hz ?_ | with_reducible refine k_len ?hz ?_); (case hz => walk_at "sz"); intro t' k'))
local macro_rules | `(tactic| walk_at "compareOp Eq") => `(tactic| (k_here; with_reducible refine k_eq ?a ?b ?_; (case a => walk_at "ok"); (case b => walk_at "ok")))
local macro_rules | `(tactic| walk_at "compareOp Eq str str") => `(tactic| (k_here; with_reducible refine o_eq ?_))
local macro_rules | `(tactic| walk_at "compareOp NotEq str str") => `(tactic| (k_here; with_reducible refine o_ne ?_))
local macro_rules | `(tactic| walk_at "compareOp Eq bytes bytes") => `(tactic| (k_here; with_reducible refine o_beq ?a ?b ?_; (case a => walk_at "oct"); (case b => walk_at "oct")))
local macro_rules | `(tactic| walk_at "compareOp NotEq bytes bytes") => `(tactic| (k_here; with_reducible refine o_bne ?a ?b ?_; (case a => walk_at "oct"); (case b => walk_at "oct")))
local macro_rules | `(tactic| walk_at "oct") => `(tactic| first | assumption | (refine Oct.take ?_ _; walk_at "oct") | (refine Oct.drop ?_ _; walk_at "oct") | (refine Oct.rstr ?_ _; walk_at "oct") | (refine Oct.lstr ?_ _; walk_at "oct") | exact Oct.nil | exact Oct.rep (by decide) _ | exact Oct.one (by decide) | exact Oct.one (by assumption))
local macro_rules | `(tactic| walk_at "ok") => `(tactic| first | assumption | exact OK.nil | exact OK.one (by first | assumption | decide) | (refine OK.take ?_ _; walk_at "ok") | (refine OK.drop ?_ _; walk_at "ok") | (refine OK.lstr ?_ _; walk_at "ok") | (refine OK.rstr ?_ _; walk_at "ok") | (refine OK.exch ?_; walk_at "ok") | (refine OK.spl1 ?_ _ _; walk_at "ok") | (refine OK.spl2 ?_ _ _; walk_at "ok") | (exact OK.rep (by first | assumption | decide) _) | (refine OK.append ?_ ?_ <;> walk_at "ok"))
local macro_rules | `(tactic| walk_at "truthy") => `(tactic| (k_here; (first | with_reducible refine o_truthy ?hz ?_ | with_reducible refine o_btruthy ?hz ?_); (case hz => walk_at "sz"); intro k'))
local macro_rules | `(tactic| walk_at "binaryOp Add") => `(tactic| (k_here; with_reducible refine k_add ?hz ?_; (case hz => walk_at "sz"); intro t' k'))
local macro_rules | `(tactic| walk_at "binaryOp Add str str") => `(tactic| (k_here; with_reducible refine o_add ?hz ?_; (case hz => walk_at "sz"); intro t' k'))
local macro_rules | `(tactic| walk_at "inplaceOp Add str str") => `(tactic| (k_here; with_reducible refine o_iadd ?hz ?_; (case hz => walk_at "sz"); intro t' k'))
local macro_rules | `(tactic| walk_at "compareOp In str str") => `(tactic| (k_here; with_reducible refine o_in ?_))
local macro_rules | `(tactic| walk_at "call builtin:str.rfind") => `(tactic| (k_here; with_reducible refine o_rfind ?_; intro t' k'))
local macro_rules | `(tactic| walk_at "call builtin:bytes.rfind") => `(tactic| (k_here; with_reducible refine b_rfind ?a ?b ?_; (case a => walk_at "oct"); (case b => first | assumption | decide); intro t' k'))
local macro_rules | `(tactic| walk_at "call builtin:bytes.rstrip") => `(tactic| (k_here; with_reducible refine b_rstrip ?a ?b ?c ?_; (case a => walk_at "oct"); (case b => first | assumption | decide); (case c => walk_at "ix"); intro t' k'))
local macro_rules | `(tactic| walk_at "getMethod bytes") => `(tactic| (k_here; first | with_reducible refine b_method_rfind ?_ | with_reducible refine b_method_rstrip ?_))
local macro_rules | `(tactic| walk_at "call builtin:str.strip") => `(tactic| (k_here; with_reducible refine o_strip ?hz ?_; (case hz => walk_at "sz"); intro t' k'))
local macro_rules | `(tactic| walk_at "call builtin:str.lstrip") => `(tactic| (k_here; with_reducible refine o_lstrip ?hz ?_; (case hz => walk_at "sz"); intro t' k'))
local macro_rules | `(tactic| walk_at "call builtin:str.rstrip") => `(tactic| (k_here; with_reducible refine o_rstrip ?hz ?_; (case hz => walk_at "sz"); intro t' k'))
local macro_rules | `(tactic| walk_at "call builtin:ord") => `(tactic| (k_here; with_reducible refine o_ord ?_; intro t' k'))
local macro_rules | `(tactic| walk_at "call builtin:chr") => `(tactic| (k_here; with_reducible refine o_chr ?a ?b ?_; (case a => walk_at "ix"); (case b => walk_at "ix"); intro t' k'))
local macro_rules | `(tactic| walk_at "binaryOp Mult str int") => `(tactic| (k_here; with_reducible refine o_mul ?a ?b ?_; (case a => walk_at "ix"); (case b => walk_at "ix"); intro t' k'))
local macro_rules | `(tactic| walk_at "binaryOp Mult bytes int") => `(tactic| (k_here; with_reducible refine b_mul ?a ?b ?_; (case a => walk_at "ix"); (case b => walk_at "ix"); intro t' k'))
local macro_rules | `(tactic| walk_at "subscriptTail Name Name str int") => `(tactic| (k_here; (with_reducible show wpAny _ _ (subscriptTail _ _ (Value.str (S _) _) (Value.int _ _)) _ _ _); refine o_item ?a ?b ?c ?_; (case a => walk_at "ix"); (case b => walk_at "ix"); (case c => walk_at "sz"); intro t' k'))
local macro_rules | `(tactic| walk_at "subscriptTail") => `(tactic| (k_here; (with_reducible show wpAny _ _ (subscriptTail _ (Expr.Slice _ _ none _) (Value.str (S _) _) (Value.ref _)) _ _ _); (with_reducible rename Fr _ _ _ _ => F'); (with_reducible rename News _ _ _ _ => N'); (first
  | (refine o_to (s := ⟨_, _, _, _, _⟩) F' N' ?hz ?a ?_; (case hz => walk_at "sz"); (case a => walk_at "ix"))
  | (refine o_from (s := ⟨_, _, _, _, _⟩) F' N' ?hz ?a ?_; (case hz => walk_at "sz"); (case a => walk_at "ix"))
  | (refine o_mid (s := ⟨_, _, _, _, _⟩) F' N' ?hz ?a ?b ?c ?_; (case hz => walk_at "sz"); (case a => walk_at "ix"); (case b => walk_at "ix"); (case c => walk_at "ix"))); intro h' t' k' F' N'; (try k_sweep)))
local macro_rules | `(tactic| walk_at "subscriptTail Name Slice str ref") => `(tactic| walk_at "subscriptTail")
local macro_rules | `(tactic| walk_at "subscriptTail") => `(tactic| (k_here; (with_reducible show wpAny _ _ (subscriptTail _ (Expr.Slice _ _ none _) (Value.bytes (Bt _) _) (Value.ref _)) _ _ _); (with_reducible rename Fr _ _ _ _ => F'); (with_reducible rename News _ _ _ _ => N'); (first
  | (refine b_to (s := ⟨_, _, _, _, _⟩) F' N' ?hz ?a ?_; (case hz => walk_at "sz"); (case a => walk_at "ix"))
  | (refine b_from (s := ⟨_, _, _, _, _⟩) F' N' ?hz ?a ?_; (case hz => walk_at "sz"); (case a => walk_at "ix"))
  | (refine b_mid (s := ⟨_, _, _, _, _⟩) F' N' ?hz ?a ?b ?c ?_; (case hz => walk_at "sz"); (case a => walk_at "ix"); (case b => walk_at "ix"); (case c => walk_at "ix"))); intro h' t' k' F' N'; (try k_sweep)))
local macro_rules | `(tactic| walk_at "subscriptTail") => `(tactic| (k_here; (with_reducible show wpAny _ _ (subscriptTail _ (Expr.Slice _ _ none _) (kv _ _ _) (Value.ref _)) _ _ _); (with_reducible rename Fr _ _ _ _ => F'); (with_reducible rename News _ _ _ _ => N'); (refine k_from (s := ⟨_, _, _, _, _⟩) F' N' ?hz ?a ?_; (case hz => walk_at "sz"); (case a => walk_at "ix")); intro h' t' k' F' N'; (try k_sweep)))
local macro_rules | `(tactic| walk_at "compareOp NotEq ref ref") => `(tactic| (k_here; with_reducible refine k_ne_tup ?n ?x ?y ?a ?b ?c ?d ?u ?_; (case n => k_asm); (case x => k_mem); (case y => k_mem); (case a => walk_at "ok"); (case b => walk_at "ok"); (case c => walk_at "ok"); (case d => walk_at "ok"); (case u => walk_at "un")))
local macro_rules | `(tactic| walk_at "un") => `(tactic| (have hcL9 := cLine_is; (try simp only [units_in1, units_deeper, Around.mark_units, units_caller]); (try dsimp only [ktrTop] at *); omega))
local macro_rules | `(tactic| walk_at "go1") => `(tactic| first | (k_unfold; (try dsimp only)) | walk1 | (dsimp only; walk1) | (leave1; walk_say "STEP leave1"; try dsimp only))
local macro_rules | `(tactic| walk_at "nowhile") => `(tactic| fail_if_success (with_reducible show wpAny _ _ (exec (Stmt.While _ _ _ _) _) _ _ _))
local macro_rules | `(tactic| walk_at "nofor") => `(tactic| fail_if_success (with_reducible show wpAny _ _ (exec (Stmt.For _ _ _ _ _) _) _ _ _))
local macro_rules | `(tactic| walk_at "nocomp") => `(tactic| fail_if_success (with_reducible show wpAny _ _ (eval (Expr.ListComp _ _ _ _) _) _ _ _))
local macro_rules | `(tactic| walk_at "noiter") => `(tactic| fail_if_success (with_reducible show wpAny _ _ (pyIter _) _ _ _))
local macro_rules | `(tactic| walk_at "go") => `(tactic| repeat' ((walk_at "nowhile"); (walk_at "nofor"); (walk_at "nocomp"); (walk_at "noiter"); (walk_at "go1")))
local macro_rules | `(tactic| walk_at "room") => `(tactic| ((try simp only [depth_in1, depth_deeper, depth_caller]); (try dsimp only [ktrTop] at *); omega))
local macro_rules | `(tactic| walk_at "call ref") => `(tactic| (k_here; (with_reducible show wpAny _ _ (call (Value.ref 159) _ _) _ _ _); k_dflt (refine' use_same (ct_last _ _ _ _ _ ?hl).n ?B ?F ?X ?N ?T ?hk ?hd ?hu ?_); (case hl => walk_at "sz"); (case B => k_asm); (case F => k_asm); (case X => k_asm); (case N => k_asm); (case T => k_asm); (case hk => first | exact rfl | assumption); (case hd => walk_at "room"); (case hu => walk_at "un"); rintro v9 h9 k9 ⟨tk9, e9⟩ F9 N9; subst e9; (try dsimp only); (try k_sweep)))
local macro_rules | `(tactic| walk_at "call ref") => `(tactic| (k_here; (with_reducible show wpAny _ _ (call (Value.ref 152) _ _) _ _ _); k_dflt (refine' use_same (ct_exchange _ _ _ ?hl).n ?B ?F ?X ?N ?T ?hk ?hd ?hu ?_); (case hl => walk_at "sz"); (case B => k_asm); (case F => k_asm); (case X => k_asm); (case N => k_asm); (case T => k_asm); (case hk => first | exact rfl | assumption); (case hd => walk_at "room"); (case hu => walk_at "un"); rintro v9 h9 k9 ⟨tk9, e9⟩ F9 N9; subst e9; (try dsimp only); (try k_sweep)))
local macro_rules | `(tactic| walk_at "call ref") => `(tactic| (k_here; (with_reducible show wpAny _ _ (call (Value.ref 145) _ _) _ _ _); k_dflt (refine' use_same (ct_kind _ _ _ _ ?hl ?ok).n ?B ?F ?X ?N ?T ?hk ?hd ?hu ?_); (case hl => walk_at "sz"); (case ok => walk_at "ok"); (case B => k_asm); (case F => k_asm); (case X => k_asm); (case N => k_asm); (case T => k_asm); (case hk => first | exact rfl | assumption); (case hd => walk_at "room"); (case hu => walk_at "un"); rintro v9 h9 k9 ⟨tk9, e9⟩ F9 N9; subst e9; (try dsimp only); (try k_sweep)))
local macro_rules | `(tactic| walk_at "call ref") => `(tactic| (k_here; (with_reducible show wpAny _ _ (call (Value.ref 140) _ _) _ _ _); k_dflt (refine' use_same (ct_signs _ _ _).n ?B ?F ?X ?N ?T ?hk ?hd ?hu ?_);  (case B => k_asm); (case F => k_asm); (case X => k_asm); (case N => k_asm); (case T => k_asm); (case hk => first | exact rfl | assumption); (case hd => walk_at "room"); (case hu => walk_at "un"); rintro v9 h9 k9 ⟨l9, tk9, e9, hl9, ho9⟩ F9 N9; subst e9; (try dsimp only); (try k_sweep)))
local macro_rules | `(tactic| walk_at "call ref") => `(tactic| (k_here; (with_reducible show wpAny _ _ (call (Value.ref 108) _ _) _ _ _); k_dflt (refine' use_tup (ct_spl _ _ _ _ _ _ _ _ ?hl ?ok ?ha ?hb).n ?B ?F ?X ?N ?T ?hk ?hd ?hu ?_); (case hl => walk_at "sz"); (case ok => walk_at "ok"); (case ha => first | assumption | decide); (case hb => first | assumption | decide); (case B => k_asm); (case F => k_asm); (case X => k_asm); (case N => k_asm); (case T => k_asm); (case hk => first | exact rfl | assumption); (case hd => walk_at "room"); (case hu => walk_at "un"); intro D9 u9 w9 h9 k9 F9 N9; (try dsimp only); (try k_sweep)))
local macro_rules | `(tactic| walk_at "call ref") => `(tactic| (k_here; (with_reducible show wpAny _ _ (call (Value.ref 108) _ _) _ _ _); k_dflt (refine' use_tup (o := false) (ct_splitext_s _ _ _ _ _ _ _ ?hl).n ?B ?F ?X ?N ?T ?hk ?hd ?hu ?_); (case hl => walk_at "sz"); (case B => k_asm); (case F => k_asm); (case X => k_asm); (case N => k_asm); (case T => k_asm); (case hk => first | exact rfl | assumption); (case hd => walk_at "room"); (case hu => walk_at "un"); intro D9 u9 w9 h9 k9 F9 N9; (try dsimp only); (try k_sweep)))
local macro_rules | `(tactic| walk_at "call ref") => `(tactic| (k_here; (with_reducible show wpAny _ _ (call (Value.ref 108) _ _) _ _ _); k_dflt (refine' use_tup (o := true) (ct_splitext_b _ _ _ _ _ _ _ ?hl ?oct ?ha ?hb).n ?B ?F ?X ?N ?T ?hk ?hd ?hu ?_); (case hl => walk_at "sz"); (case oct => walk_at "oct"); (case ha => first | assumption | decide); (case hb => first | assumption | decide); (case B => k_asm); (case F => k_asm); (case X => k_asm); (case N => k_asm); (case T => k_asm); (case hk => first | exact rfl | assumption); (case hd => walk_at "room"); (case hu => walk_at "un"); intro D9 u9 w9 h9 k9 F9 N9; (try dsimp only); (try k_sweep)))
local macro_rules | `(tactic| walk_at "call ref") => `(tactic| (k_here; (with_reducible show wpAny _ _ (call (Value.ref 101) _ _) _ _ _); k_dflt (refine' use_same (ct_fspath_s _ _ _).n ?B ?F ?X ?N ?T ?hk ?hd ?hu ?_);  (case B => k_asm); (case F => k_asm); (case X => k_asm); (case N => k_asm); (case T => k_asm); (case hk => first | exact rfl | assumption); (case hd => walk_at "room"); (case hu => walk_at "un"); rintro v9 h9 k9 e9 F9 N9; subst e9; (try dsimp only); (try k_sweep)))
local macro_rules | `(tactic| walk_at "call ref") => `(tactic| (k_here; (with_reducible show wpAny _ _ (call (Value.ref 101) _ _) _ _ _); k_dflt (refine' use_same (ct_fspath_b _ _ _).n ?B ?F ?X ?N ?T ?hk ?hd ?hu ?_);  (case B => k_asm); (case F => k_asm); (case X => k_asm); (case N => k_asm); (case T => k_asm); (case hk => first | exact rfl | assumption); (case hd => walk_at "room"); (case hu => walk_at "un"); rintro v9 h9 k9 e9 F9 N9; subst e9; (try dsimp only); (try k_sweep)))
local macro_rules | `(tactic| walk_at "call ref") => `(tactic| (k_here; (with_reducible show wpAny _ _ (call (Value.ref 115) _ _) _ _ _); k_dflt (refine' use_same (ct_getsep_s _ _ _).n ?B ?F ?X ?N ?T ?hk ?hd ?hu ?_);  (case B => k_asm); (case F => k_asm); (case X => k_asm); (case N => k_asm); (case T => k_asm); (case hk => first | exact rfl | assumption); (case hd => walk_at "room"); (case hu => walk_at "un"); rintro v9 h9 k9 ⟨tk9, e9⟩ F9 N9; subst e9; (try dsimp only); (try k_sweep)))
local macro_rules | `(tactic| walk_at "call ref") => `(tactic| (k_here; (with_reducible show wpAny _ _ (call (Value.ref 115) _ _) _ _ _); k_dflt (refine' use_same (ct_getsep_b _ _ _).n ?B ?F ?X ?N ?T ?hk ?hd ?hu ?_);  (case B => k_asm); (case F => k_asm); (case X => k_asm); (case N => k_asm); (case T => k_asm); (case hk => first | exact rfl | assumption); (case hd => walk_at "room"); (case hu => walk_at "un"); rintro v9 h9 k9 ⟨tk9, e9⟩ F9 N9; subst e9; (try dsimp only); (try k_sweep)))
local macro_rules | `(tactic| walk_at "call ref") => `(tactic| (k_here; (with_reducible show wpAny _ _ (call (Value.ref 166) _ _) _ _ _); k_dflt (refine' use_tup (ct_cut _ _ _ _ _ _ ?hl ?ok ?hc) ?B ?F ?X ?N ?T ?hk ?hd ?hu ?_); (case hl => walk_at "sz"); (case ok => walk_at "ok"); (case hc => first | assumption | decide); (case B => k_asm); (case F => k_asm); (case X => k_asm); (case N => k_asm); (case T => k_asm); (case hk => first | exact rfl | assumption); (case hd => walk_at "room"); (case hu => walk_at "un"); intro D9 u9 w9 h9 k9 F9 N9; (try dsimp only); (try k_sweep)))
local macro_rules | `(tactic| walk_at "call ref") => `(tactic| (k_here; (with_reducible show wpAny _ _ (call (Value.ref 173) _ _) _ _ _); k_dflt (refine' use_tup (ct_due _ _ _ _ ?hl ?ok) ?B ?F ?X ?N ?T ?hk ?hd ?hu ?_); (case hl => walk_at "sz"); (case ok => walk_at "ok"); (case B => k_asm); (case F => k_asm); (case X => k_asm); (case N => k_asm); (case T => k_asm); (case hk => first | exact rfl | assumption); (case hd => walk_at "room"); (case hu => walk_at "un"); intro D9 u9 w9 h9 k9 F9 N9; (try dsimp only); (try k_sweep)))
theorem ct_split_s (w : World) (l : List Nat) (t : Tok) (hl : l.length ≤ 1000) :
    CtN 20 w 122 [.str (S l) t] (fun news v news' => ∃ D u1 u2, v = .ref D ∧ news' = (D, tup [.str (S (splitH l)) u1, .str (S (l.drop (lastIx 47 l + 1).toNat)) u2]) :: news) := by
  unfold CtN
  k_fill
  intro p loose mean mg mb dp un gd cn cs a ccd cl outer A₀ base h₀ L m news s Q E B F X N T hk hd hu hret
  refine wpAny_call ?_
  k_dflt cell_enter
  rename_i g' L' h1 FG' F' N' B' X' T'
  have F2 : Fr g' L' h1 (mp [(Str.ofString "p", .str (S l) t)]) := F'
  clear F'
  have ga := lastIx_ge 47 l
  have lb := lastIx_lt 47 l
  walk_at "go"
  · exact hret _ _ _ _ (split_ret_s (splitH_y (by assumption) (by assumption))) (by assumption) (drop2 (by assumption))
  · exact hret _ _ _ _ (split_ret_s (splitH_r (by assumption))) (by assumption) (drop2 (by assumption))
  · exact hret _ _ _ _ (split_ret_s (splitH_e (by assumption))) (by assumption) (drop2 (by assumption))
theorem ct_split_b (w : World) (l : List Nat) (t : Tok) (hl : l.length ≤ 1000) (ho : Oct l) :
    CtN 20 w 122 [.bytes (Bt l) t] (fun news v news' => ∃ D u1 u2, v = .ref D ∧ news' = (D, tup [.bytes (Bt (splitH l)) u1, .bytes (Bt (l.drop (lastIx 47 l + 1).toNat)) u2]) :: news) := by
  unfold CtN
  k_fill
  intro p loose mean mg mb dp un gd cn cs a ccd cl outer A₀ base h₀ L m news s Q E B F X N T hk hd hu hret
  refine wpAny_call ?_
  k_dflt cell_enter
  rename_i g' L' h1 FG' F' N' B' X' T'
  have F2 : Fr g' L' h1 (mp [(Str.ofString "p", .bytes (Bt l) t)]) := F'
  clear F'
  have ga := lastIx_ge 47 l
  have lb := lastIx_lt 47 l
  walk_at "go"
  · exact hret _ _ _ _ (split_ret_b (splitH_y (by assumption) (by assumption))) (by assumption) (drop2 (by assumption))
  · exact hret _ _ _ _ (split_ret_b (splitH_r (by assumption))) (by assumption) (drop2 (by assumption))
  · exact hret _ _ _ _ (split_ret_b (splitH_e (by assumption))) (by assumption) (drop2 (by assumption))
theorem ct_spt_s (w : World) (l : List Nat) (t : Tok) (hl : l.length ≤ 1000) :
    CtN 20 w 129 [.str (S l) t] (fun news v news' => ∃ D u1 u2, v = .ref D ∧ news' = (D, tup [.str (S (spl 47 46 l).1) u1, .str (S (spl 47 46 l).2) u2]) :: news) := by
  unfold CtN
  k_fill
  intro p loose mean mg mb dp un gd cn cs a ccd cl outer A₀ base h₀ L m news s Q E B F X N T hk hd hu hret
  refine wpAny_call ?_
  k_dflt cell_enter
  rename_i g' L' h1 FG' F' N' B' X' T'
  have F2 : Fr g' L' h1 (mp [(Str.ofString "p", .str (S l) t)]) := F'
  clear F'
  walk_at "go"
  exact hret _ _ _ _ ⟨_, _, _, rfl, rfl⟩ (by assumption) (by assumption)
theorem ct_spt_b (w : World) (l : List Nat) (t : Tok) (hl : l.length ≤ 1000) (ho : Oct l) :
    CtN 20 w 129 [.bytes (Bt l) t] (fun news v news' => ∃ D u1 u2, v = .ref D ∧ news' = (D, tup [.bytes (Bt (spl 47 46 l).1) u1, .bytes (Bt (spl 47 46 l).2) u2]) :: news) := by
  unfold CtN
  k_fill
  intro p loose mean mg mb dp un gd cn cs a ccd cl outer A₀ base h₀ L m news s Q E B F X N T hk hd hu hret
  refine wpAny_call ?_
  k_dflt cell_enter
  rename_i g' L' h1 FG' F' N' B' X' T'
  have F2 : Fr g' L' h1 (mp [(Str.ofString "p", .bytes (Bt l) t)]) := F'
  clear F'
  walk_at "go"
  exact hret _ _ _ _ ⟨_, _, _, rfl, rfl⟩ (by assumption) (by assumption)
def bodyOf : Stmt → List Stmt
  | .FunctionDef _ _ b _ _ _ _ _ _ _ => b
  | _ => []
def scopeOf : Stmt → Scope
  | .FunctionDef _ _ _ _ _ _ sc _ _ _ => sc
  | _ => default
def lawDef : Stmt := PySem.Challenge.pw_ab6010_01.main.body.getLastD (.Pass default)
def lawBody : List Stmt := bodyOf lawDef
def lawScope : Scope := scopeOf lawDef
theorem ct_split (w : World) (o : Bool) (l : List Nat) (t : Tok) (hl : l.length ≤ 1000) (ho : OK o l) :
    CtN 20 w 122 [kv o l t] (fun news v news' => ∃ D u1 u2, v = .ref D ∧ news' = (D, tup [kv o (splitH l) u1, kv o (l.drop (lastIx 47 l + 1).toNat) u2]) :: news) := by
  cases o
  · exact ct_split_s w l t hl
  · exact ct_split_b w l t hl (ho rfl)
theorem ct_spt (w : World) (o : Bool) (l : List Nat) (t : Tok) (hl : l.length ≤ 1000) (ho : OK o l) :
    CtN 20 w 129 [kv o l t] (fun news v news' => ∃ D u1 u2, v = .ref D ∧ news' = (D, tup [kv o (spl 47 46 l).1 u1, kv o (spl 47 46 l).2 u2]) :: news) := by
  cases o
  · exact ct_spt_s w l t hl
  · exact ct_spt_b w l t hl (ho rfl)
section
variable {prog : Program} {w : World} {A : Around} {E : Value → Shared → Prop} {s : Shared} {h₀ : Heap} {L : Addr} {news : List (Addr × Obj)} {o : Bool} {Q : Value → Shared → Prop}
theorem k_ne_same {a1 a2 b1 b2 : List Nat} {x y : Addr} {t1 t2 u1 u2 : Tok} (N : News h₀ L s.heap news) (hx : (x, tup [kv o a1 t1, kv o a2 t2]) ∈ news) (hy : (y, tup [kv o b1 u1, kv o b2 u2]) ∈ news)
    (ha1 : OK o a1) (ha2 : OK o a2) (e1 : a1 = b1) (e2 : a2 = b2) (hu : A.units + 1 < cLine) (h : Q (.bool false) s) : wpAny (model prog w) A (compareOp .NotEq (.ref x) (.ref y)) Q E s :=
  k_ne_tup N hx hy ha1 ha2 (e1 ▸ ha1) (e2 ▸ ha2) hu (by rw [decide_eq_true (show a1 = b1 ∧ a2 = b2 from ⟨e1, e2⟩)]; exact h)
end
end Mine
namespace Mine
/-- from the n-th statement of the law's body on, the names being es and the ledger nw: it ends and hands back True -/
def Seg (w : World) (n : Nat) (es : List (Str × Value)) (nw : List (Addr × Obj)) : Prop :=
  ∀ (p : Program) (loose : List Str) (mean : ExcName → Option Value) (mg mb : Str → Option Value)
    (dp un : Nat) (gd : Option (List Code)) (a : Addr) (ccd : Value) (outer : List Env) (A₀ : Around) (base h₀ : Heap) (L : Addr) (s : Shared)
    (Q : Flow → Shared → Prop) (E : Value → Shared → Prop),
    Below A₀ base outer h₀ → Fr h₀ L s.heap (mp es) → (hd.heap_39 w.params).In h₀ → News h₀ L s.heap nw → Top p loose mean mg mb h₀ → dp + 30 < 1000 → un + 1000 < 9900 →
    PassesOwn (model PySem.Challenge.rw_ab6010_01.row.prog w) (ktrTop dp un gd (Str.ofString "law") lawScope L a ccd [] outer) (envOf (Str.ofString "law") lawScope L a ccd) E →
    (∀ h' tk' es' nw', Fr h₀ L h' (mp es') → News h₀ L h' nw' → Q (.ret (.bool true)) { s with heap := h', toks := tk' }) →
    wpAny (model PySem.Challenge.rw_ab6010_01.row.prog w) (ktrTop dp un gd (Str.ofString "law") lawScope L a ccd [] outer) (execs (lawBody.drop n) (envOf (Str.ofString "law") lawScope L a ccd)) Q E s
theorem ite_ff {p q : Prop} (h : q) : if false = true then p else q := by simpa using h
theorem ite_tt {p q : Prop} (h : p) : if true = true then p else q := by simpa using h
theorem OK.splitH {o : Bool} {l : List Nat} (h : OK o l) : OK o (splitH l) := by
  unfold Mine.splitH
  split
  · exact (h.take _).rstr _
  · exact h.take _
structure Same (a b : List Nat) : Prop where
  eq : a = b
section
variable {prog : Program} {w : World} {A : Around} {E : Value → Shared → Prop} {s : Shared} {h₀ : Heap} {L : Addr} {news : List (Addr × Obj)} {o : Bool} {Q : Value → Shared → Prop}
theorem k_ne_same2 {a1 a2 b1 b2 : List Nat} {x y : Addr} {t1 t2 u1 u2 : Tok} (N : News h₀ L s.heap news) (hx : (x, tup [kv o a1 t1, kv o a2 t2]) ∈ news) (hy : (y, tup [kv o b1 u1, kv o b2 u2]) ∈ news)
    (ha1 : OK o a1) (ha2 : OK o a2) (e1 : Same a1 b1) (e2 : Same a2 b2) (hu : A.units + 1 < cLine) (h : Q (.bool false) s) : wpAny (model prog w) A (compareOp .NotEq (.ref x) (.ref y)) Q E s :=
  k_ne_same N hx hy ha1 ha2 e1.eq e2.eq hu h
end
end Mine
namespace Mine
theorem not_mem_take {x : Nat} {l : List Nat} (h : x ∉ l) (n : Nat) : x ∉ l.take n := fun e => h (List.mem_of_mem_take e)
theorem not_mem_drop {x : Nat} {l : List Nat} (h : x ∉ l) (n : Nat) : x ∉ l.drop n := fun e => h (List.mem_of_mem_drop e)
theorem lastIx_drop (x : Nat) : ∀ (n : Nat) (l : List Nat), lastIx x (l.drop n) = if (n : Int) ≤ lastIx x l then lastIx x l - n else -1
  | 0, l => by
    have := lastIx_ge x l
    simp only [List.drop_zero]
    split <;> omega
  | n + 1, [] => by
    have e : lastIx x [] = -1 := rfl
    rw [List.drop_nil, if_neg (by rw [e]; omega), e]
  | n + 1, a :: l => by
    have ih := lastIx_drop x n l
    have := lastIx_ge x l
    simp only [List.drop_succ_cons, lastIx, ih]
    split <;> split <;> (try split) <;> (try split) <;> omega
/-- all but `b` in it: some sign that is not `b` -/
abbrev some_ne (b : Nat) (l : List Nat) : Prop := l.any (· != b) = true
theorem rep_of_not : ∀ {b : Nat} {l : List Nat}, ¬ some_ne b l → l = List.replicate l.length b
  | _, [], _ => rfl
  | b, a :: l, h => by
    have h1 : a = b := by
      by_cases e : a = b
      · exact e
      · exact absurd (by simp [some_ne, e]) h
    have h2 : ¬ some_ne b l := fun e => h (by simp only [some_ne, List.any_cons, Bool.or_eq_true]; exact .inr e)
    rw [List.length_cons, List.replicate_succ, ← rep_of_not h2, h1]
theorem not_of_rep {b n : Nat} : ¬ some_ne b (List.replicate n b) := by
  simp [some_ne]
theorem some_ne_append {b : Nat} {x y : List Nat} : some_ne b (x ++ y) ↔ some_ne b x ∨ some_ne b y := by
  simp only [some_ne, List.any_append, Bool.or_eq_true]
theorem lstr_rep (b n : Nat) : lstr b (List.replicate n b) = [] := by
  induction n with
  | zero => rfl
  | succ n ih => rw [List.replicate_succ]; unfold lstr at *; simpa using ih
theorem lstr_rep_app (b n : Nat) (r : List Nat) : lstr b (List.replicate n b ++ r) = lstr b r := by
  induction n with
  | zero => rfl
  | succ n ih => rw [List.replicate_succ, List.cons_append]; unfold lstr at *; simpa using ih
theorem lstr_free {b a : Nat} {r : List Nat} (h : a ≠ b) : lstr b (a :: r) = a :: r := by
  unfold lstr; rw [List.dropWhile_cons_of_neg]; simpa using h
theorem lstr_notin {b : Nat} {r : List Nat} (h : b ∉ r) : lstr b r = r := by
  cases r with
  | nil => rfl
  | cons a r => exact lstr_free fun e => h (by simp [e])
theorem lstr_ne {b : Nat} : ∀ {l : List Nat}, some_ne b l → some_ne b (lstr b l)
  | [], h => h
  | a :: l, h => by
    by_cases e : a = b
    · subst e
      have : some_ne a l := by simpa [some_ne] using h
      have := lstr_ne this
      unfold lstr at *
      simpa using this
    · rw [lstr_free e]; exact h
theorem rstr_ne {b : Nat} {l : List Nat} (h : some_ne b l) : some_ne b (rstr b l) := by
  have h1 : some_ne b l.reverse := by simpa [some_ne] using h
  have := lstr_ne h1
  unfold rstr
  unfold lstr at this
  simpa [some_ne] using this
theorem strip_ne {b : Nat} {l : List Nat} : rstr b (lstr b l) ≠ [] ↔ some_ne b l := by
  constructor
  · intro h
    by_cases e : some_ne b l
    · exact e
    · rw [rep_of_not e, lstr_rep] at h
      exact absurd rfl h
  · intro h e
    have := rstr_ne (lstr_ne h)
    rw [e] at this
    simp [some_ne] at this
theorem rstr_snoc (b : Nat) (l : List Nat) : rstr b (l ++ [b]) = rstr b l := by
  unfold rstr; simp
theorem spl_free {a b : Nat} {l : List Nat} (ha : a ∉ l) (k : Nat) (hk : lastIx b l = k) : spl a b l = if some_ne b (l.take k) then (l.take k, l.drop k) else (l, []) := by
  unfold spl
  have e1 : (-1 + 1 : Int).toNat = 0 := rfl
  rw [lastIx_none ha, hk, Int.toNat_natCast, e1, List.drop_zero]
  by_cases h : some_ne b (l.take k)
  · rw [if_pos h, if_pos ⟨by omega, h⟩]
  · rw [if_neg h, if_neg (fun x => h x.2)]
theorem spl_none {a b : Nat} {l : List Nat} (hb : b ∉ l) : spl a b l = (l, []) := by
  have := lastIx_ge a l
  exact spl_not (by rw [lastIx_none hb]; omega)
theorem place_cases (b : Nat) (l : List Nat) : b ∉ l ∨ ∃ k : Nat, lastIx b l = k ∧ k < l.length ∧ l = l.take k ++ b :: l.drop (k + 1) ∧ b ∉ l.drop (k + 1) ∧ l.take (k + 1) = l.take k ++ [b] := by
  by_cases h : 0 ≤ lastIx b l
  · obtain ⟨k, hk⟩ := Int.eq_ofNat_of_zero_le h
    have hk : lastIx b l = (k : Int) := hk
    have hlt := lastIx_lt b l
    have hn : k < l.length := by omega
    obtain ⟨h1, h2⟩ := lastIx_at b l k hk
    have hg : l[k] = b := by simpa [hn] using h1
    refine .inr ⟨k, hk, hn, ?_, h2, ?_⟩
    · conv => lhs; rw [← List.take_append_drop k l, List.drop_eq_getElem_cons hn, hg]
    · rw [List.take_add_one, h1]; rfl
  · exact .inl (lastIx_neg b l (by omega))
theorem spl_yes {a b : Nat} {l : List Nat} (ha : a ∉ l) (h : (spl a b l).2 ≠ []) :
    ∃ k : Nat, lastIx b l = k ∧ k < l.length ∧ some_ne b (l.take k) ∧ spl a b l = (l.take k, l.drop k) ∧ l = l.take k ++ b :: l.drop (k + 1) ∧ b ∉ l.drop (k + 1) ∧ l.take (k + 1) = l.take k ++ [b] := by
  rcases place_cases b l with hb | ⟨k, hk, hn, h1, h2, h3⟩
  · rw [spl_none hb] at h; exact absurd rfl h
  · by_cases hs : some_ne b (l.take k)
    · exact ⟨k, hk, hn, hs, by rw [spl_free ha k hk, if_pos hs], h1, h2, h3⟩
    · rw [spl_free ha k hk, if_neg hs] at h; exact absurd rfl h
theorem spl_nope {a b : Nat} {l : List Nat} (ha : a ∉ l) (h : (spl a b l).2 = []) :
    spl a b l = (l, []) ∧ ∃ (j : Nat) (r : List Nat), l = List.replicate j b ++ r ∧ b ∉ r ∧ lastIx b l + 1 = j := by
  rcases place_cases b l with hb | ⟨k, hk, hn, h1, h2, h3⟩
  · exact ⟨spl_none hb, 0, l, rfl, hb, by rw [lastIx_none hb]; rfl⟩
  · by_cases hs : some_ne b (l.take k)
    · rw [spl_free ha k hk, if_pos hs] at h
      have : (l.drop k).length = 0 := by rw [show l.drop k = [] from h]; rfl
      rw [List.length_drop] at this
      omega
    · refine ⟨by rw [spl_free ha k hk, if_neg hs], k + 1, l.drop (k + 1), ?_, h2, by rw [hk]; rfl⟩
      have e := rep_of_not hs
      have el : (l.take k).length = k := by rw [List.length_take]; omega
      rw [el] at e
      have : l.take (k + 1) = List.replicate (k + 1) b := by rw [h3, e, List.replicate_succ']
      rw [← this, List.take_append_drop]

/-! ### what the law asks -/
theorem b_told {c : Nat} {l : List Nat} (hc : c ∉ l) : spl c 47 l = dueL l := by
  unfold dueL
  rcases place_cases 47 l with hb | ⟨k, hk, hn, h1, h2, h3⟩
  · have e : (l.take (if (0 : Int) > lastIx 47 l then 0 else lastIx 47 l).toNat) = [] := by
      rw [lastIx_none hb]; rfl
    rw [spl_none hb, if_neg]
    rw [e]; intro h; exact h rfl
  · have e : (if (0 : Int) > lastIx 47 l then 0 else lastIx 47 l).toNat = k := by
      rw [hk, if_neg (by omega)]; rfl
    rw [spl_free hc k hk, e, hk, Int.toNat_natCast]
    by_cases hs : some_ne 47 (l.take k)
    · rw [if_pos hs, if_pos (strip_ne.mpr hs)]
    · rw [if_neg hs, if_neg (fun h => hs (strip_ne.mp h))]
theorem b_head1 {c : Nat} {l : List Nat} (hc : c ∉ l) (h : (spl c 47 l).2 ≠ []) : 0 ≤ lastIx 47 l ∧ splitH l = rstr 47 (l.take (lastIx 47 l).toNat) := by
  obtain ⟨k, hk, hn, hs, he, h1, h2, h3⟩ := spl_yes hc h
  refine ⟨by omega, ?_⟩
  unfold splitH
  have e : (lastIx 47 l + 1).toNat = k + 1 := by rw [hk]; omega
  rw [e, hk, Int.toNat_natCast, if_pos, h3, rstr_snoc]
  rw [h3]
  refine ⟨by simp, fun x => ?_⟩
  have : some_ne 47 (l.take k ++ [47]) := some_ne_append.mpr (.inl hs)
  rw [x] at this
  exact not_of_rep this
theorem b_head2 {c : Nat} {l : List Nat} (hc : c ∉ l) (h : (spl c 47 l).2 = []) : splitH l = l.take (lastIx 47 l + 1).toNat := by
  obtain ⟨he, j, r, h1, h2, h3⟩ := spl_nope hc h
  unfold splitH
  have e : l.take (lastIx 47 l + 1).toNat = List.replicate j 47 := by
    rw [h3, Int.toNat_natCast, h1, List.take_append_of_le_length (by simp), List.take_of_length_le (by simp)]
  rw [e, if_neg]
  rintro ⟨_, h5⟩
  rw [List.length_replicate] at h5
  exact h5 rfl
theorem b_dot {c : Nat} {l : List Nat} (hc : c ∉ l) : spl 46 47 l = (l.take (lastIx 46 l + 1).toNat ++ (spl c 47 (l.drop (lastIx 46 l + 1).toNat)).1, (spl c 47 (l.drop (lastIx 46 l + 1).toNat)).2) := by
  have g1 := lastIx_ge 46 l
  obtain ⟨d, hd⟩ : ∃ d : Nat, lastIx 46 l + 1 = d := ⟨(lastIx 46 l + 1).toNat, by omega⟩
  have hl := lastIx_lt 46 l
  rw [hd, Int.toNat_natCast]
  have hx := lastIx_drop 47 d l
  by_cases hk : (d : Int) ≤ lastIx 47 l
  · rw [if_pos hk] at hx
    obtain ⟨k, hk'⟩ : ∃ k : Nat, lastIx 47 l - d = k := ⟨(lastIx 47 l - d).toNat, by omega⟩
    rw [hk'] at hx
    rw [spl_free (not_mem_drop hc d) k hx]
    unfold spl
    have e1 : (lastIx 47 l).toNat = d + k := by omega
    have e2 : (lastIx 46 l + 1).toNat = d := by omega
    have e3 : (l.take (d + k)).drop d = (l.drop d).take k := by rw [List.drop_take]; congr 1; omega
    rw [e1, e2, e3]
    by_cases hs : some_ne 47 ((l.drop d).take k)
    · rw [if_pos hs, if_pos ⟨by omega, hs⟩]
      rw [List.drop_drop, ← e3]
      refine Prod.ext ?_ rfl
      show l.take (d + k) = l.take d ++ (l.take (d + k)).drop d
      conv => lhs; rw [← List.take_append_drop d (l.take (d + k))]
      rw [List.take_take, Nat.min_eq_left (by omega)]
    · rw [if_neg hs, if_neg (fun x => hs x.2)]
      simp
  · rw [if_neg hk] at hx
    have : 47 ∉ l.drop d := lastIx_neg 47 _ (by omega)
    rw [spl_none this, spl_not (by omega)]
    simp
end Mine
namespace Mine
def glue : List (List Nat) → List Nat
  | [] => []
  | p :: r => 47 :: (p ++ glue r)
theorem c_cuts : ∀ (ps : List (List Nat)) (r0 : List Nat), 47 ∉ r0 → (∀ p ∈ ps, 47 ∉ p) → cuts 47 (r0 ++ glue ps) = r0 :: ps
  | [], r0, h, _ => by
    show cuts 47 (r0 ++ []) = _
    rw [List.append_nil]; exact cuts_free 47 r0 h
  | p :: r, r0, h, hp => by
    show cuts 47 (r0 ++ 47 :: (p ++ glue r)) = _
    rw [cuts_app 47 _ r0 h, c_cuts r p (hp p (.head _)) fun q hq => hp q (.tail _ hq)]
/-- the loop's state: what is left, and the pieces behind it -/
def Pcs (l : List Nat) (ps : List (List Nat)) (left : List Nat) : Prop := l = left ++ glue ps ∧ (∀ p ∈ ps, 47 ∉ p) ∧ (ps ≠ [] → some_ne 47 left)
theorem pcs_0 (l : List Nat) : Pcs l [] l := ⟨by simp [glue], by simp, fun h => absurd rfl h⟩
theorem Pcs.sub {l left : List Nat} {ps : List (List Nat)} (I : Pcs l ps left) {c : Nat} (hc : c ∉ l) : c ∉ left := fun e => hc (by rw [I.1]; exact List.mem_append_left _ e)
theorem Pcs.len {l left : List Nat} {ps : List (List Nat)} (I : Pcs l ps left) : left.length ≤ l.length := by rw [I.1]; simp
theorem glue_len : ∀ ps : List (List Nat), ps.length ≤ (glue ps).length
  | [] => by simp [glue]
  | p :: r => by have := glue_len r; simp only [glue, List.length_cons, List.length_append]; omega
theorem Pcs.num {l left : List Nat} {ps : List (List Nat)} (I : Pcs l ps left) : ps.length ≤ l.length := by
  have := glue_len ps
  rw [I.1, List.length_append]; omega
theorem Pcs.pre {l left : List Nat} {ps : List (List Nat)} (I : Pcs l ps left) : l.take left.length = left := by rw [I.1]; simp
theorem c_step {c : Nat} {l left : List Nat} {ps : List (List Nat)} (hc : c ∉ l) (I : Pcs l ps left) (h : (spl c 47 left).2 ≠ []) :
    Pcs l (((l.take left.length).drop ((spl c 47 left).1.length + 1)) :: ps) (l.take (spl c 47 left).1.length) ∧ (spl c 47 left).1.length < left.length ∧ (l.take (spl c 47 left).1.length).length < left.length := by
  obtain ⟨k, hk, hn, hs, he, h1, h2, h3⟩ := spl_yes (I.sub hc) h
  have el : (left.take k).length = k := by rw [List.length_take]; omega
  have e1 : (spl c 47 left).1.length = k := by rw [he]; exact el
  have e2 : l.take k = left.take k := by
    rw [I.1, List.take_append_of_le_length (by omega)]
  rw [e1, I.pre, e2]
  refine ⟨⟨?_, ?_, fun _ => hs⟩, hn, by omega⟩
  · have := I.1
    rw [h1] at this
    rw [this]
    simp only [glue, List.append_assoc, List.cons_append]
  · intro p hp
    rcases List.mem_cons.mp hp with rfl | hp
    · exact h2
    · exact I.2.1 p hp
theorem c_end {c : Nat} {l left : List Nat} {ps : List (List Nat)} (hc : c ∉ l) (I : Pcs l ps left) (h : (spl c 47 left).2 = []) :
    ∃ r0, cuts 47 (lstr 47 l) = r0 :: ps ∧ left = l.take (l.length - (lstr 47 l).length) ++ r0 := by
  obtain ⟨he, j, r, h1, h2, h3⟩ := spl_nope (I.sub hc) h
  have e1 : lstr 47 l = r ++ glue ps := by
    rw [I.1, h1, List.append_assoc, lstr_rep_app]
    cases r with
    | nil =>
      cases ps with
      | nil => rfl
      | cons p q =>
        have := I.2.2 (by simp)
        rw [h1, List.append_nil] at this
        exact absurd this not_of_rep
    | cons a r =>
      exact lstr_free fun e => h2 (by simp [e])
  refine ⟨r, by rw [e1]; exact c_cuts ps r h2 I.2.1, ?_⟩
  have e2 : l.length - (lstr 47 l).length = j := by
    have : l.length = j + (r ++ glue ps).length := by
      rw [I.1, h1]; simp
    rw [e1, this]; omega
  rw [e2]
  have : l.take j = List.replicate j 47 := by
    rw [I.1, h1, List.append_assoc, List.take_append_of_le_length (by simp), List.take_of_length_le (by simp)]
  rw [this]; exact h1

theorem exch_off : ∀ {l : List Nat}, 46 ∉ l → 47 ∉ l → l.map exch = l
  | [], _, _ => rfl
  | a :: l, h, h' => by
    have h1 : a ≠ 46 := fun e => h (by simp [e])
    have h2 : a ≠ 47 := fun e => h' (by simp [e])
    have e : exch a = a := by unfold exch; simp [h1, h2]
    rw [List.map_cons, e, exch_off (fun e => h (.tail _ e)) fun e => h' (.tail _ e)]
theorem lstr_map : ∀ l : List Nat, lstr 47 (l.map exch) = (lstr 46 l).map exch
  | [] => rfl
  | a :: l => by
    by_cases e : a = 46
    · subst e
      have : lstr 47 ((46 :: l).map exch) = lstr 47 (l.map exch) := by
        show lstr 47 (exch 46 :: l.map exch) = _
        rw [show exch 46 = 47 from rfl]; unfold lstr; simp
      rw [this, lstr_map l]; unfold lstr; simp
    · have h2 : exch a ≠ 47 := fun h => e (exch_inj (show exch a = exch 46 from h))
      rw [lstr_free e, List.map_cons, lstr_free h2]
theorem rstr_map (l : List Nat) : rstr 47 (l.map exch) = (rstr 46 l).map exch := by
  have := lstr_map l.reverse
  unfold lstr at this
  unfold rstr
  rw [← List.map_reverse, this, List.map_reverse]
theorem ne_map {l : List Nat} (h : some_ne 46 l) : some_ne 47 (l.map exch) := by
  rw [some_ne, List.any_eq_true] at h ⊢
  obtain ⟨c, hc, hn⟩ := h
  refine ⟨exch c, List.mem_map_of_mem hc, ?_⟩
  rw [bne_iff_ne] at hn ⊢
  exact fun e => hn (exch_inj (show exch c = exch 46 from e))
theorem d_yes {l : List Nat} (h7 : 47 ∉ l) (h : (spl 47 46 l).2 ≠ []) :
    (l.map exch).drop (lastIx 47 (l.map exch) + 1).toNat = (spl 47 46 l).2.drop 1 ∧ splitH (l.map exch) = (rstr 46 (l.take (spl 47 46 l).1.length)).map exch := by
  obtain ⟨k, hk, hn, hs, he, h1, h2, h3⟩ := spl_yes h7 h
  have el : (l.take k).length = k := by rw [List.length_take]; omega
  have ex : lastIx 47 (l.map exch) = k := by rw [← hk]; exact lastIx_map 46 l
  have e : (lastIx 47 (l.map exch) + 1).toNat = k + 1 := by rw [ex]; omega
  rw [he]
  refine ⟨?_, ?_⟩
  · rw [e, ← List.map_drop, exch_off h2 (not_mem_drop h7 _)]
    show _ = (l.drop k).drop 1
    rw [List.drop_drop]
  · show _ = (rstr 46 (l.take (l.take k).length)).map exch
    have e4 : (l.map exch).take (k + 1) = (l.take k).map exch ++ [47] := by
      rw [← List.map_take, h3, List.map_append]; rfl
    unfold splitH
    rw [e, el, if_pos, e4, rstr_snoc, rstr_map]
    rw [e4]
    refine ⟨by simp, fun x => ?_⟩
    have : some_ne 47 ((l.take k).map exch ++ [47]) := some_ne_append.mpr (.inl (ne_map hs))
    rw [x] at this
    exact not_of_rep this
theorem d_no {l : List Nat} (h7 : 47 ∉ l) (h : (spl 47 46 l).2 = []) :
    splitH (l.map exch) = List.replicate (l.length - (lstr 46 l).length) 47 ∧ (l.map exch).drop (lastIx 47 (l.map exch) + 1).toNat = l.drop (l.length - (lstr 46 l).length) := by
  obtain ⟨he, j, r, h1, h2, h3⟩ := spl_nope h7 h
  have ex : lastIx 47 (l.map exch) + 1 = j := by rw [← h3, show lastIx 47 (l.map exch) = lastIx 46 l from lastIx_map 46 l]
  have e1 : lstr 46 l = r := by rw [h1, lstr_rep_app, lstr_notin h2]
  have e2 : l.length - (lstr 46 l).length = j := by rw [e1, h1]; simp
  have e3 : (l.map exch).take j = List.replicate j 47 := by
    rw [← List.map_take, h1, List.take_append_of_le_length (by simp), List.take_of_length_le (by simp)]
    simp; exact .inr rfl
  have e5 : l.drop j = r := by rw [h1]; simp
  rw [e2, e5]
  refine ⟨?_, ?_⟩
  · unfold splitH
    rw [ex, Int.toNat_natCast, e3, if_neg]
    rintro ⟨_, h5⟩
    rw [List.length_replicate] at h5
    exact h5 rfl
  · rw [ex, Int.toNat_natCast, ← List.map_drop, e5]
    exact exch_off h2 fun e => h7 (by rw [h1]; exact List.mem_append_right _ e)
theorem drop_sub (x y : Nat) (l : List Nat) : ((x : Int) - (y : Int)).toNat = x - y := by omega
theorem d_yes' {l : List Nat} (h7 : 47 ∉ l) (h : 0 < ((spl 47 46 l).2.length : Int)) :
    (l.map exch).drop (lastIx 47 (l.map exch) + 1).toNat = (spl 47 46 l).2.drop (Int.toNat 1) ∧ splitH (l.map exch) = (rstr 46 (l.take (((spl 47 46 l).1.length : Int)).toNat)).map exch := by
  rw [Int.toNat_natCast]
  exact d_yes h7 fun e => by rw [e] at h; simp at h
theorem d_no' {l : List Nat} (h7 : 47 ∉ l) (h : ¬ 0 < ((spl 47 46 l).2.length : Int)) :
    splitH (l.map exch) = List.replicate ((l.length : Int) - ((lstr 46 l).length : Int)).toNat 47 ∧ (l.map exch).drop (lastIx 47 (l.map exch) + 1).toNat = l.drop ((l.length : Int) - ((lstr 46 l).length : Int)).toNat := by
  have e : ((l.length : Int) - ((lstr 46 l).length : Int)).toNat = l.length - (lstr 46 l).length := by omega
  rw [e]
  refine d_no h7 ?_
  have : (spl 47 46 l).2.length = 0 := by omega
  exact List.eq_nil_of_length_eq_zero this
end Mine
namespace Mine
open PySem.Builtin
local macro_rules | `(tactic| walk_at "mput") => `(tactic| first | exact Put.nil | with_reducible exact Put.here | (refine' Put.there ?pa ?pb; (case pa => decide); (case pb => walk_at "mput")))
local macro_rules | `(tactic| walk_at "sz") => `(tactic| first | with_reducible assumption | omega | ((with_reducible refine sz_take ?_); walk_at "sz") | ((with_reducible refine sz_drop ?_); walk_at "sz") | ((with_reducible refine sz_lstr ?_); walk_at "sz") | ((with_reducible refine sz_rstr ?_); walk_at "sz") | ((with_reducible refine sz_spl1 ?_); walk_at "sz") | ((with_reducible refine sz_spl2 ?_); walk_at "sz") | ((with_reducible refine sz_map ?_); walk_at "sz") | (simp only [List.length_take, List.length_drop, List.length_append, List.length_map, List.length_cons, List.length_nil, List.length_replicate]; omega))
local macro_rules | `(tactic| walk_at "ix") => `(tactic| first | omega | (simp only [List.length_take, List.length_drop]; omega) | (simp only [decide_eq_true_eq, decide_eq_false_iff_not, Bool.not_eq_true] at *; omega) | ((try simp only [Int.fmod_eq_emod_of_nonneg _ (by decide : (0 : Int) ≤ 256), Int.fmod_eq_emod_of_nonneg _ (by decide : (0 : Int) ≤ 7), Int.fmod_eq_emod_of_nonneg _ (by decide : (0 : Int) ≤ 3), Int.fdiv_eq_ediv_of_nonneg _ (by decide : (0 : Int) ≤ 7), Int.fdiv_eq_ediv_of_nonneg _ (by decide : (0 : Int) ≤ 3)] at *); omega))
local macro_rules | `(tactic| walk_at "storeName") => `(tactic| (k_here; (with_reducible show wpAny _ _ (storeName (envOf _ _ _ _ _) _ _) _ _ _); (first | (with_reducible refine gen_int ?_; intro tk') | (with_reducible refine gen_str ?_; intro tk') | (with_reducible refine gen_bytes ?_; intro tk') | (with_reducible refine gen_kv ?_; intro tk') | skip); k_dflt (refine' st_any ?F ?N ?P ?_; (case F => with_reducible assumption); (case N => with_reducible assumption); (case P => walk_at "mput")); intro h' k' F' N'; (try dsimp only); (try k_sweep)))
local macro_rules | `(tactic| walk_at "eval Constant str") => `(tactic| (k_here; (first | refine o_const (l := [47]) (by decide) ?_ | refine o_const (l := [46]) (by decide) ?_ | refine o_const (l := []) (by decide) ?_); intro t' k'))
local macro_rules | `(tactic| walk_at "eval Constant bytes") => `(tactic| (k_here; (first | refine o_bconst (l := [47]) (by decide) ?_ | refine o_bconst (l := [46]) (by decide) ?_); intro t' k'))
local macro_rules | `(tactic| walk_at "call builtin:len") => `(tactic| (k_here; (first | with_reducible refine o_len ?hz ?_ | with_reducible refine o_blen ?hz ?_ | with_reducible refine k_len ?hz ?_); (case hz => walk_at "sz"); intro t' k'))
local macro_rules | `(tactic| walk_at "compareOp Eq") => `(tactic| (k_here; with_reducible refine k_eq ?a ?b ?_; (case a => walk_at "ok"); (case b => walk_at "ok")))
local macro_rules | `(tactic| walk_at "compareOp Eq str str") => `(tactic| (k_here; with_reducible refine o_eq ?_))
local macro_rules | `(tactic| walk_at "compareOp NotEq str str") => `(tactic| (k_here; with_reducible refine o_ne ?_))
local macro_rules | `(tactic| walk_at "compareOp Eq bytes bytes") => `(tactic| (k_here; with_reducible refine o_beq ?a ?b ?_; (case a => walk_at "oct"); (case b => walk_at "oct")))
local macro_rules | `(tactic| walk_at "compareOp NotEq bytes bytes") => `(tactic| (k_here; with_reducible refine o_bne ?a ?b ?_; (case a => walk_at "oct"); (case b => walk_at "oct")))
local macro_rules | `(tactic| walk_at "oct") => `(tactic| first | with_reducible assumption | ((with_reducible refine Oct.take ?_ _); walk_at "oct") | ((with_reducible refine Oct.drop ?_ _); walk_at "oct") | ((with_reducible refine Oct.rstr ?_ _); walk_at "oct") | ((with_reducible refine Oct.lstr ?_ _); walk_at "oct") | (with_reducible exact Oct.nil) | ((with_reducible refine Oct.rep ?_ _); first | with_reducible assumption | decide) | ((with_reducible refine Oct.one ?_); first | with_reducible assumption | decide))
local macro_rules | `(tactic| walk_at "ok") => `(tactic| first | with_reducible assumption | (with_reducible exact OK.nil) | ((with_reducible refine OK.one ?_); first | with_reducible assumption | decide) | ((with_reducible refine OK.take ?_ _); walk_at "ok") | ((with_reducible refine OK.drop ?_ _); walk_at "ok") | ((with_reducible refine OK.lstr ?_ _); walk_at "ok") | ((with_reducible refine OK.rstr ?_ _); walk_at "ok") | ((with_reducible refine OK.exch ?_); walk_at "ok") | ((with_reducible refine OK.splitH ?_); walk_at "ok") | ((with_reducible refine OK.spl1 ?_ _ _); walk_at "ok") | ((with_reducible refine OK.spl2 ?_ _ _); walk_at "ok") | ((with_reducible refine OK.rep ?_ _); first | with_reducible assumption | decide) | ((with_reducible refine OK.append ?_ ?_) <;> walk_at "ok"))
local macro_rules | `(tactic| walk_at "truthy") => `(tactic| (k_here; (first | with_reducible refine o_truthy ?hz ?_ | with_reducible refine o_btruthy ?hz ?_); (case hz => walk_at "sz"); intro k'))
local macro_rules | `(tactic| walk_at "binaryOp Add") => `(tactic| (k_here; with_reducible refine k_add ?hz ?_; (case hz => walk_at "sz"); intro t' k'))
local macro_rules | `(tactic| walk_at "binaryOp Add str str") => `(tactic| (k_here; with_reducible refine o_add ?hz ?_; (case hz => walk_at "sz"); intro t' k'))
local macro_rules | `(tactic| walk_at "inplaceOp Add str str") => `(tactic| (k_here; with_reducible refine o_iadd ?hz ?_; (case hz => walk_at "sz"); intro t' k'))
local macro_rules | `(tactic| walk_at "compareOp In str str") => `(tactic| (k_here; with_reducible refine o_in ?_))
local macro_rules | `(tactic| walk_at "call builtin:str.rfind") => `(tactic| (k_here; with_reducible refine o_rfind ?_; intro t' k'))
local macro_rules | `(tactic| walk_at "call builtin:bytes.rfind") => `(tactic| (k_here; with_reducible refine b_rfind ?a ?b ?_; (case a => walk_at "oct"); (case b => first | with_reducible assumption | decide); intro t' k'))
local macro_rules | `(tactic| walk_at "call builtin:bytes.rstrip") => `(tactic| (k_here; with_reducible refine b_rstrip ?a ?b ?c ?_; (case a => walk_at "oct"); (case b => first | with_reducible assumption | decide); (case c => walk_at "ix"); intro t' k'))
local macro_rules | `(tactic| walk_at "getMethod bytes") => `(tactic| (k_here; first | with_reducible refine b_method_rfind ?_ | with_reducible refine b_method_rstrip ?_))
local macro_rules | `(tactic| walk_at "call builtin:str.strip") => `(tactic| (k_here; with_reducible refine o_strip ?hz ?_; (case hz => walk_at "sz"); intro t' k'))
local macro_rules | `(tactic| walk_at "call builtin:str.lstrip") => `(tactic| (k_here; with_reducible refine o_lstrip ?hz ?_; (case hz => walk_at "sz"); intro t' k'))
local macro_rules | `(tactic| walk_at "call builtin:str.rstrip") => `(tactic| (k_here; with_reducible refine o_rstrip ?hz ?_; (case hz => walk_at "sz"); intro t' k'))
local macro_rules | `(tactic| walk_at "call builtin:ord") => `(tactic| (k_here; with_reducible refine o_ord ?_; intro t' k'))
local macro_rules | `(tactic| walk_at "call builtin:chr") => `(tactic| (k_here; with_reducible refine o_chr ?a ?b ?_; (case a => walk_at "ix"); (case b => walk_at "ix"); intro t' k'))
local macro_rules | `(tactic| walk_at "binaryOp Mult str int") => `(tactic| (k_here; with_reducible refine o_mul ?a ?b ?_; (case a => walk_at "ix"); (case b => walk_at "ix"); intro t' k'))
local macro_rules | `(tactic| walk_at "binaryOp Mult bytes int") => `(tactic| (k_here; with_reducible refine b_mul ?a ?b ?_; (case a => walk_at "ix"); (case b => walk_at "ix"); intro t' k'))
local macro_rules | `(tactic| walk_at "subscriptTail Name Name str int") => `(tactic| (k_here; (with_reducible show wpAny _ _ (subscriptTail _ _ (Value.str (S _) _) (Value.int _ _)) _ _ _); refine o_item ?a ?b ?c ?_; (case a => walk_at "ix"); (case b => walk_at "ix"); (case c => walk_at "sz"); intro t' k'))
local macro_rules | `(tactic| walk_at "subscriptTail") => `(tactic| (k_here; (with_reducible show wpAny _ _ (subscriptTail _ (Expr.Slice _ _ none _) (Value.str (S _) _) (Value.ref _)) _ _ _); (with_reducible rename Fr _ _ _ _ => F'); (with_reducible rename News _ _ _ _ => N'); (first
  | (refine o_to (s := ⟨_, _, _, _, _⟩) F' N' ?hz ?a ?_; (case hz => walk_at "sz"); (case a => walk_at "ix"))
  | (refine o_from (s := ⟨_, _, _, _, _⟩) F' N' ?hz ?a ?_; (case hz => walk_at "sz"); (case a => walk_at "ix"))
  | (refine o_mid (s := ⟨_, _, _, _, _⟩) F' N' ?hz ?a ?b ?c ?_; (case hz => walk_at "sz"); (case a => walk_at "ix"); (case b => walk_at "ix"); (case c => walk_at "ix"))); intro h' t' k' F' N'; (try k_sweep)))
local macro_rules | `(tactic| walk_at "subscriptTail Name Slice str ref") => `(tactic| walk_at "subscriptTail")
local macro_rules | `(tactic| walk_at "subscriptTail") => `(tactic| (k_here; (with_reducible show wpAny _ _ (subscriptTail _ (Expr.Slice _ _ none _) (Value.bytes (Bt _) _) (Value.ref _)) _ _ _); (with_reducible rename Fr _ _ _ _ => F'); (with_reducible rename News _ _ _ _ => N'); (first
  | (refine b_to (s := ⟨_, _, _, _, _⟩) F' N' ?hz ?a ?_; (case hz => walk_at "sz"); (case a => walk_at "ix"))
  | (refine b_from (s := ⟨_, _, _, _, _⟩) F' N' ?hz ?a ?_; (case hz => walk_at "sz"); (case a => walk_at "ix"))
  | (refine b_mid (s := ⟨_, _, _, _, _⟩) F' N' ?hz ?a ?b ?c ?_; (case hz => walk_at "sz"); (case a => walk_at "ix"); (case b => walk_at "ix"); (case c => walk_at "ix"))); intro h' t' k' F' N'; (try k_sweep)))
local macro_rules | `(tactic| walk_at "subscriptTail") => `(tactic| (k_here; (with_reducible show wpAny _ _ (subscriptTail _ (Expr.Slice _ _ none _) (kv _ _ _) (Value.ref _)) _ _ _); (with_reducible rename Fr _ _ _ _ => F'); (with_reducible rename News _ _ _ _ => N'); (refine k_from (s := ⟨_, _, _, _, _⟩) F' N' ?hz ?a ?_; (case hz => walk_at "sz"); (case a => walk_at "ix")); intro h' t' k' F' N'; (try k_sweep)))
local macro_rules | `(tactic| walk_at "compareOp NotEq ref ref") => `(tactic| (k_here; with_reducible refine k_ne_tup ?n ?x ?y ?a ?b ?c ?d ?u ?_; (case n => k_asm); (case x => k_mem); (case y => k_mem); (case a => walk_at "ok"); (case b => walk_at "ok"); (case c => walk_at "ok"); (case d => walk_at "ok"); (case u => walk_at "un")))
local macro_rules | `(tactic| walk_at "un") => `(tactic| (have hcL9 := cLine_is; (try simp only [units_in1, units_deeper, Around.mark_units, units_caller]); (try dsimp only [ktrTop] at *); omega))
local macro_rules | `(tactic| walk_at "go1") => `(tactic| first | (k_unfold; (try dsimp only)) | walk1 | (dsimp only; walk1) | (leave1; walk_say "STEP leave1"; try dsimp only))
local macro_rules | `(tactic| walk_at "nowhile") => `(tactic| fail_if_success (with_reducible show wpAny _ _ (exec (Stmt.While _ _ _ _) _) _ _ _))
local macro_rules | `(tactic| walk_at "nofor") => `(tactic| fail_if_success (with_reducible show wpAny _ _ (exec (Stmt.For _ _ _ _ _) _) _ _ _))
local macro_rules | `(tactic| walk_at "nocomp") => `(tactic| fail_if_success (with_reducible show wpAny _ _ (eval (Expr.ListComp _ _ _ _) _) _ _ _))
local macro_rules | `(tactic| walk_at "noiter") => `(tactic| fail_if_success (with_reducible show wpAny _ _ (pyIter _) _ _ _))
local macro_rules | `(tactic| walk_at "go") => `(tactic| repeat' ((walk_at "nowhile"); (walk_at "nofor"); (walk_at "nocomp"); (walk_at "noiter"); (walk_at "go1")))
local macro_rules | `(tactic| walk_at "room") => `(tactic| ((try simp only [depth_in1, depth_deeper, depth_caller]); (try dsimp only [ktrTop] at *); omega))
local macro_rules | `(tactic| walk_at "call ref") => `(tactic| (k_here; (with_reducible show wpAny _ _ (call (Value.ref 159) _ _) _ _ _); k_dflt ((refine' use_same (ct_last _ _ _ _ _ ?hl).n ?B ?F ?X ?N ?T ?hk ?hd ?hu ?_); (case hl => walk_at "sz"); (case B => k_asm); (case F => k_asm); (case X => k_asm); (case N => k_asm); (case T => k_asm); (case hk => first | exact rfl | with_reducible assumption); (case hd => walk_at "room"); (case hu => walk_at "un"); rintro v9 h9 k9 ⟨tk9, e9⟩ F9 N9; subst e9; (try dsimp only); (try k_sweep))))
local macro_rules | `(tactic| walk_at "call ref") => `(tactic| (k_here; (with_reducible show wpAny _ _ (call (Value.ref 152) _ _) _ _ _); k_dflt ((refine' use_same (ct_exchange _ _ _ ?hl).n ?B ?F ?X ?N ?T ?hk ?hd ?hu ?_); (case hl => walk_at "sz"); (case B => k_asm); (case F => k_asm); (case X => k_asm); (case N => k_asm); (case T => k_asm); (case hk => first | exact rfl | with_reducible assumption); (case hd => walk_at "room"); (case hu => walk_at "un"); rintro v9 h9 k9 ⟨tk9, e9⟩ F9 N9; subst e9; (try dsimp only); (try k_sweep))))
local macro_rules | `(tactic| walk_at "call ref") => `(tactic| (k_here; (with_reducible show wpAny _ _ (call (Value.ref 145) _ _) _ _ _); k_dflt ((refine' use_same (ct_kind _ _ _ _ ?hl ?ok).n ?B ?F ?X ?N ?T ?hk ?hd ?hu ?_); (case hl => walk_at "sz"); (case ok => walk_at "ok"); (case B => k_asm); (case F => k_asm); (case X => k_asm); (case N => k_asm); (case T => k_asm); (case hk => first | exact rfl | with_reducible assumption); (case hd => walk_at "room"); (case hu => walk_at "un"); rintro v9 h9 k9 ⟨tk9, e9⟩ F9 N9; subst e9; (try dsimp only); (try k_sweep))))
local macro_rules | `(tactic| walk_at "call ref") => `(tactic| (k_here; (with_reducible show wpAny _ _ (call (Value.ref 140) _ _) _ _ _); k_dflt ((refine' use_same (ct_signs _ _ _).n ?B ?F ?X ?N ?T ?hk ?hd ?hu ?_);  (case B => k_asm); (case F => k_asm); (case X => k_asm); (case N => k_asm); (case T => k_asm); (case hk => first | exact rfl | with_reducible assumption); (case hd => walk_at "room"); (case hu => walk_at "un"); rintro v9 h9 k9 ⟨l9, tk9, e9, hl9, ho9⟩ F9 N9; subst e9; (try dsimp only); (try k_sweep))))
local macro_rules | `(tactic| walk_at "call ref") => `(tactic| (k_here; (with_reducible show wpAny _ _ (call (Value.ref 108) _ _) _ _ _); k_dflt ((refine' use_tup (ct_spl _ _ _ _ _ _ _ _ ?hl ?ok ?ha ?hb).n ?B ?F ?X ?N ?T ?hk ?hd ?hu ?_); (case hl => walk_at "sz"); (case ok => walk_at "ok"); (case ha => first | with_reducible assumption | decide); (case hb => first | with_reducible assumption | decide); (case B => k_asm); (case F => k_asm); (case X => k_asm); (case N => k_asm); (case T => k_asm); (case hk => first | exact rfl | with_reducible assumption); (case hd => walk_at "room"); (case hu => walk_at "un"); intro D9 u9 w9 h9 k9 F9 N9; (try dsimp only); (try k_sweep))))
local macro_rules | `(tactic| walk_at "call ref") => `(tactic| (k_here; (with_reducible show wpAny _ _ (call (Value.ref 108) _ _) _ _ _); k_dflt ((refine' use_tup (o := false) (ct_splitext_s _ _ _ _ _ _ _ ?hl).n ?B ?F ?X ?N ?T ?hk ?hd ?hu ?_); (case hl => walk_at "sz"); (case B => k_asm); (case F => k_asm); (case X => k_asm); (case N => k_asm); (case T => k_asm); (case hk => first | exact rfl | with_reducible assumption); (case hd => walk_at "room"); (case hu => walk_at "un"); intro D9 u9 w9 h9 k9 F9 N9; (try dsimp only); (try k_sweep))))
local macro_rules | `(tactic| walk_at "call ref") => `(tactic| (k_here; (with_reducible show wpAny _ _ (call (Value.ref 108) _ _) _ _ _); k_dflt ((refine' use_tup (o := true) (ct_splitext_b _ _ _ _ _ _ _ ?hl ?oct ?ha ?hb).n ?B ?F ?X ?N ?T ?hk ?hd ?hu ?_); (case hl => walk_at "sz"); (case oct => walk_at "oct"); (case ha => first | with_reducible assumption | decide); (case hb => first | with_reducible assumption | decide); (case B => k_asm); (case F => k_asm); (case X => k_asm); (case N => k_asm); (case T => k_asm); (case hk => first | exact rfl | with_reducible assumption); (case hd => walk_at "room"); (case hu => walk_at "un"); intro D9 u9 w9 h9 k9 F9 N9; (try dsimp only); (try k_sweep))))
local macro_rules | `(tactic| walk_at "call ref") => `(tactic| (k_here; (with_reducible show wpAny _ _ (call (Value.ref 101) _ _) _ _ _); k_dflt ((refine' use_same (ct_fspath_s _ _ _).n ?B ?F ?X ?N ?T ?hk ?hd ?hu ?_);  (case B => k_asm); (case F => k_asm); (case X => k_asm); (case N => k_asm); (case T => k_asm); (case hk => first | exact rfl | with_reducible assumption); (case hd => walk_at "room"); (case hu => walk_at "un"); rintro v9 h9 k9 e9 F9 N9; subst e9; (try dsimp only); (try k_sweep))))
local macro_rules | `(tactic| walk_at "call ref") => `(tactic| (k_here; (with_reducible show wpAny _ _ (call (Value.ref 101) _ _) _ _ _); k_dflt ((refine' use_same (ct_fspath_b _ _ _).n ?B ?F ?X ?N ?T ?hk ?hd ?hu ?_);  (case B => k_asm); (case F => k_asm); (case X => k_asm); (case N => k_asm); (case T => k_asm); (case hk => first | exact rfl | with_reducible assumption); (case hd => walk_at "room"); (case hu => walk_at "un"); rintro v9 h9 k9 e9 F9 N9; subst e9; (try dsimp only); (try k_sweep))))
local macro_rules | `(tactic| walk_at "call ref") => `(tactic| (k_here; (with_reducible show wpAny _ _ (call (Value.ref 115) _ _) _ _ _); k_dflt ((refine' use_same (ct_getsep_s _ _ _).n ?B ?F ?X ?N ?T ?hk ?hd ?hu ?_);  (case B => k_asm); (case F => k_asm); (case X => k_asm); (case N => k_asm); (case T => k_asm); (case hk => first | exact rfl | with_reducible assumption); (case hd => walk_at "room"); (case hu => walk_at "un"); rintro v9 h9 k9 ⟨tk9, e9⟩ F9 N9; subst e9; (try dsimp only); (try k_sweep))))
local macro_rules | `(tactic| walk_at "call ref") => `(tactic| (k_here; (with_reducible show wpAny _ _ (call (Value.ref 115) _ _) _ _ _); k_dflt ((refine' use_same (ct_getsep_b _ _ _).n ?B ?F ?X ?N ?T ?hk ?hd ?hu ?_);  (case B => k_asm); (case F => k_asm); (case X => k_asm); (case N => k_asm); (case T => k_asm); (case hk => first | exact rfl | with_reducible assumption); (case hd => walk_at "room"); (case hu => walk_at "un"); rintro v9 h9 k9 ⟨tk9, e9⟩ F9 N9; subst e9; (try dsimp only); (try k_sweep))))
local macro_rules | `(tactic| walk_at "call ref") => `(tactic| (k_here; (with_reducible show wpAny _ _ (call (Value.ref 166) _ _) _ _ _); k_dflt ((refine' use_tup (ct_cut _ _ _ _ _ _ ?hl ?ok ?hc) ?B ?F ?X ?N ?T ?hk ?hd ?hu ?_); (case hl => walk_at "sz"); (case ok => walk_at "ok"); (case hc => first | with_reducible assumption | decide); (case B => k_asm); (case F => k_asm); (case X => k_asm); (case N => k_asm); (case T => k_asm); (case hk => first | exact rfl | with_reducible assumption); (case hd => walk_at "room"); (case hu => walk_at "un"); intro D9 u9 w9 h9 k9 F9 N9; (try dsimp only); (try k_sweep))))
local macro_rules | `(tactic| walk_at "call ref") => `(tactic| (k_here; (with_reducible show wpAny _ _ (call (Value.ref 173) _ _) _ _ _); k_dflt ((refine' use_tup (ct_due _ _ _ _ ?hl ?ok) ?B ?F ?X ?N ?T ?hk ?hd ?hu ?_); (case hl => walk_at "sz"); (case ok => walk_at "ok"); (case B => k_asm); (case F => k_asm); (case X => k_asm); (case N => k_asm); (case T => k_asm); (case hk => first | exact rfl | with_reducible assumption); (case hd => walk_at "room"); (case hu => walk_at "un"); intro D9 u9 w9 h9 k9 F9 N9; (try dsimp only); (try k_sweep))))
local macro_rules | `(tactic| walk_at "call ref") => `(tactic| (k_here; (with_reducible show wpAny _ _ (call (Value.ref 122) _ _) _ _ _); k_dflt ((refine' use_tup (ct_split _ _ _ _ ?hl ?ok) ?B ?F ?X ?N ?T ?hk ?hd ?hu ?_); (case hl => walk_at "sz"); (case ok => walk_at "ok"); (case B => k_asm); (case F => k_asm); (case X => k_asm); (case N => k_asm); (case T => k_asm); (case hk => first | exact rfl | with_reducible assumption); (case hd => walk_at "room"); (case hu => walk_at "un"); intro D9 u9 w9 h9 k9 F9 N9; (try dsimp only); (try k_sweep))))
local macro_rules | `(tactic| walk_at "call ref") => `(tactic| (k_here; (with_reducible show wpAny _ _ (call (Value.ref 129) _ _) _ _ _); k_dflt ((refine' use_tup (ct_spt _ _ _ _ ?hl ?ok) ?B ?F ?X ?N ?T ?hk ?hd ?hu ?_); (case hl => walk_at "sz"); (case ok => walk_at "ok"); (case B => k_asm); (case F => k_asm); (case X => k_asm); (case N => k_asm); (case T => k_asm); (case hk => first | exact rfl | with_reducible assumption); (case hd => walk_at "room"); (case hu => walk_at "un"); intro D9 u9 w9 h9 k9 F9 N9; (try dsimp only); (try k_sweep))))
local macro_rules | `(tactic| walk_at "compareOp NotEq ref ref") => `(tactic| (k_here; k_dflt ((refine' k_ne_same2 ?n ?x ?y ?a ?b ?e1 ?e2 ?u ?_); (case n => k_asm); (case x => k_mem); (case y => k_mem); (case a => walk_at "ok"); (case b => walk_at "ok"); (case e1 => with_reducible assumption); (case e2 => with_reducible assumption); (case u => walk_at "un"))))
local macro_rules | `(tactic| walk_at "ite") => `(tactic| first | with_reducible refine ite_ff ?_ | with_reducible refine ite_tt ?_)
local macro_rules | `(tactic| walk_at "call builtin:str.join") => `(tactic| (k_here; k_dflt ((refine' o_joinD ?n ?m ?i ?z ?o ?_); (case n => k_asm); (case m => k_mem); (case i => with_reducible assumption); (case z => walk_at "sz"); (case o => with_reducible assumption); intro nm t' k' hnm7 hnmz hnmo)))
theorem seg_d (w : World) (o : Bool) (l : List Nat) (hl : l.length ≤ 100) (ho : OK o l) (v1 v2 v3 v4 v5 v6 v7 v8 v9 v10 v11 v12 v13 : Value) (t1 t2 : Tok) (nw : List (Addr × Obj)) :
    Seg w 21 [(Str.ofString "script", v1), (Str.ofString "numbers", v2), (Str.ofString "octets", .bool o), (Str.ofString "text", .str (S l) t1), (Str.ofString "code", v3), (Str.ofString "free", v4), (Str.ofString "thing", kv o l t2),
      (Str.ofString "told", v5), (Str.ofString "k", v6), (Str.ofString "due", v7), (Str.ofString "dot", v8), (Str.ofString "inner", v9), (Str.ofString "pieces", v10), (Str.ofString "left", v11), (Str.ofString "part", v12), (Str.ofString "rest", v13)] nw := by
  unfold Seg
  k_fill
  intro p loose mean mg mb dp un gd a ccd outer A₀ base h₀ L s Q E B F X N T hd hu hpo hret
  have e1 : Same (spl 46 47 (l.map exch)).1 ((l.take ((((spl 47 46 l).1.length : Nat) : Int).toNat)).map exch) := ⟨by rw [Int.toNat_natCast]; exact sw_1 l⟩
  have e2 : Same (spl 46 47 (l.map exch)).2 ((l.drop ((((spl 47 46 l).1.length : Nat) : Int).toNat)).map exch) := ⟨by rw [Int.toNat_natCast]; exact sw_2 l⟩
  with_unfolding_all refine wpAny_execs_cons ?_
  walk_at "go"
  rename Fr _ _ _ _ => kF
  rename News _ _ _ _ => kN
  refine ListComp_ST (l := l) (fun c => decide (c ≠ 47)) kF kN (by omega) (by rfl) (by decide) (by rfl) (by decide) (by rfl) (by rfl) ?_ ?_ ?_ ?_
  · walk_at "go"
    exact ⟨⟨_, rfl⟩, by assumption, by assumption, _, _, rfl⟩
  · intro c t I oI C oC D ys m₂ h tk E' hC hx F9 N9
    walk_at "go"
    all_goals first | exact F9 | exact N9 | simp
  · intro c t I oI C oC D ys m₂ h tk E' hC hx F9 N9
    walk_at "go"
    exact ⟨_, _, rfl, F9, N9, _, rfl⟩
  · intro D h' tk' ys hy F9 N9
    walk_at "go"
    · rw [decide_eq_true (d_yes' (by assumption) (by assumption)).2]
      exact hret _ _ _ _ (by assumption) (by assumption)
    · exact absurd (d_yes' (by assumption) (by assumption)).1 (by assumption)
    · rw [decide_eq_true (d_no' (by assumption) (by assumption)).2]
      exact hret _ _ _ _ (by assumption) (by assumption)
    · exact absurd (d_no' (by assumption) (by assumption)).1 (by assumption)
end Mine
namespace Mine
section
variable {prog : Program} {w : World} {A : Around} {E : Value → Shared → Prop} {s : Shared} {h₀ : Heap} {L : Addr} {m : Str → Option Value} {news : List (Addr × Obj)} {o : Bool} {Q : Value → Shared → Prop} {D D2 : Addr} {x y : List Nat} {t t1 t2 u : Tok} {value slice : PySem.Expr}
theorem t_item0 (N : News h₀ L s.heap news) (hm : (D, tup [kv o x t1, kv o y t2]) ∈ news) (h : Q (kv o x t1) s)
    (hs : subscripted slice false (.ref D) (.int 0 u) = operate [.ref D, .int 0 u] (getItem (.ref D) (.int 0 u)) := by with_unfolding_all rfl) :
    wpAny (model prog w) A (subscriptTail value slice (.ref D) (.int 0 u)) Q E s :=
  item_tupleT (N.isTup hm) (by omega) (by omega) (by rfl) (by rfl) h hs
theorem t_item1 (N : News h₀ L s.heap news) (hm : (D, tup [kv o x t1, kv o y t2]) ∈ news) (h : Q (kv o y t2) s)
    (hs : subscripted slice false (.ref D) (.int 1 u) = operate [.ref D, .int 1 u] (getItem (.ref D) (.int 1 u)) := by with_unfolding_all rfl) :
    wpAny (model prog w) A (subscriptTail value slice (.ref D) (.int 1 u)) Q E s :=
  item_tupleT (N.isTup hm) (by omega) (by omega) (by rfl) (by rfl) h hs
theorem o_cons {zs : List Value} {ws : List (List Nat)} {n n2 : Nat} (F : Fr h₀ L s.heap m) (N : News h₀ L s.heap news) (hm : (D, ({ cls := .type "list", data := .seq [Value.str (S y) t].toArray n } : Obj)) ∈ news) (hm2 : (D2, ({ cls := .type "list", data := .seq zs.toArray n2 } : Obj)) ∈ news)
    (hj : StrsAre zs (ws.map S)) (hz : ws.length ≤ 900)
    (h : ∀ vs D h', StrsAre vs ((y :: ws).map S) → Fr h₀ L h' m → News h₀ L h' ((D, lst0 vs) :: news) → Q (.ref D) { s with heap := h' }) :
    wpAny (model prog w) A (binaryOp .Add (.ref D) (.ref D2)) Q E s :=
  o_cat (xs := [y]) F N hm hm2 (.cons _ _ .nil) hj (by simp; omega) h
end
structure SameL (a b : List (List Nat)) : Prop where
  eq : a = b
theorem cuts_pos (c : Nat) (l : List Nat) : 1 ≤ (cuts c l).length := by
  have := cuts_ne c l
  cases h : cuts c l with
  | nil => exact absurd h this
  | cons _ _ => simp
theorem cuts_len (c : Nat) : ∀ l : List Nat, (cuts c l).length ≤ l.length + 1
  | [] => by simp [cuts]
  | a :: l => by
    have := cuts_len c l
    simp only [cuts]
    split
    · simp; omega
    · split
      · simp
      · rename_i h; rw [h] at this; simpa using by simp at this; omega
theorem sz_cuts {c : Nat} {l : List Nat} (h : l.length ≤ 900) : (cuts c l).length ≤ 1000 := by have := cuts_len c l; omega
theorem b_told1 {c : Nat} {l : List Nat} (hc : c ∉ l) : Same (spl c 47 l).1 (dueL l).1 := ⟨by rw [b_told hc]⟩
theorem b_told2 {c : Nat} {l : List Nat} (hc : c ∉ l) : Same (spl c 47 l).2 (dueL l).2 := ⟨by rw [b_told hc]⟩
theorem pos_ne {l : List Nat} (h : 0 < (l.length : Int)) : l ≠ [] := fun e => by rw [e] at h; simp at h
theorem b_k {c : Nat} {l : List Nat} (hc : c ∉ l) (h : 0 < ((spl c 47 l).2.length : Int)) : 0 ≤ lastIx 47 l := (b_head1 hc (pos_ne h)).1
theorem b_h1 {c : Nat} {l : List Nat} (hc : c ∉ l) (h : 0 < ((spl c 47 l).2.length : Int)) : Same (splitH l) (rstr 47 (l.take (lastIx 47 l).toNat)) := ⟨(b_head1 hc (pos_ne h)).2⟩
theorem b_h2 {c : Nat} {l : List Nat} (hc : c ∉ l) (h : ¬ 0 < ((spl c 47 l).2.length : Int)) : Same (splitH l) (l.take (lastIx 47 l + 1).toNat) :=
  ⟨b_head2 hc (List.eq_nil_of_length_eq_zero (by omega))⟩
theorem b_d1 {c : Nat} {l : List Nat} (hc : c ∉ l) : Same (spl 46 47 l).1 (l.take (lastIx 46 l + 1).toNat ++ (spl c 47 (l.drop (lastIx 46 l + 1).toNat)).1) := ⟨by rw [b_dot hc]⟩
theorem b_d2 {c : Nat} {l : List Nat} (hc : c ∉ l) : Same (spl 46 47 l).2 (spl c 47 (l.drop (lastIx 46 l + 1).toNat)).2 := ⟨by rw [b_dot hc]⟩
theorem Same.rf {a : List Nat} : Same a a := ⟨rfl⟩
theorem c_ix {c : Nat} {l left : List Nat} {ps : List (List Nat)} (hc : c ∉ l) (I : Pcs l ps left) (h : 0 < ((spl c 47 left).2.length : Int)) :
    ((spl c 47 left).1.length : Int) + 1 ≤ left.length ∧ (left.length : Int) ≤ l.length := by
  have h1 := (c_step hc I (pos_ne h)).2.1
  have h2 := I.len
  omega
theorem c_step' {c : Nat} {l left : List Nat} {ps : List (List Nat)} (hc : c ∉ l) (I : Pcs l ps left) (h : 0 < ((spl c 47 left).2.length : Int)) :
    Pcs l (((l.take ((left.length : Int)).toNat).drop (((spl c 47 left).1.length : Int) + 1).toNat) :: ps) (l.take (((spl c 47 left).1.length : Int)).toNat) ∧ (l.take (((spl c 47 left).1.length : Int)).toNat).length < left.length := by
  have e : (((spl c 47 left).1.length : Int) + 1).toNat = (spl c 47 left).1.length + 1 := by omega
  rw [e, Int.toNat_natCast, Int.toNat_natCast]
  have := c_step hc I (pos_ne h)
  exact ⟨this.1, this.2.2⟩
theorem c_end' {c : Nat} {l left : List Nat} {ps : List (List Nat)} (hc : c ∉ l) (I : Pcs l ps left) (h : ¬ 0 < ((spl c 47 left).2.length : Int)) :
    ∃ r0, SameL ps ((cuts 47 (lstr 47 l)).drop 1) ∧ (cuts 47 (lstr 47 l))[0]? = some r0 ∧ Same left (l.take ((l.length : Int) - ((lstr 47 l).length : Int)).toNat ++ r0) ∧ r0.length ≤ l.length := by
  obtain ⟨r0, h1, h2⟩ := c_end hc I (List.eq_nil_of_length_eq_zero (by omega))
  have e : ((l.length : Int) - ((lstr 47 l).length : Int)).toNat = l.length - (lstr 47 l).length := by omega
  refine ⟨r0, ⟨by rw [h1]; rfl⟩, by rw [h1]; rfl, ⟨by rw [e]; exact h2⟩, ?_⟩
  have := I.len
  rw [h2, List.length_append] at this
  omega
end Mine
namespace Mine
open PySem.Builtin
local macro_rules | `(tactic| walk_at "mput") => `(tactic| first | exact Put.nil | with_reducible exact Put.here | (refine' Put.there ?pa ?pb; (case pa => decide); (case pb => walk_at "mput")))
local macro_rules | `(tactic| walk_at "sz") => `(tactic| first | with_reducible assumption | omega | ((with_reducible refine sz_take ?_); walk_at "sz") | ((with_reducible refine sz_drop ?_); walk_at "sz") | ((with_reducible refine sz_lstr ?_); walk_at "sz") | ((with_reducible refine sz_rstr ?_); walk_at "sz") | ((with_reducible refine sz_spl1 ?_); walk_at "sz") | ((with_reducible refine sz_spl2 ?_); walk_at "sz") | ((with_reducible refine sz_map ?_); walk_at "sz") | (simp only [List.length_take, List.length_drop, List.length_append, List.length_map, List.length_cons, List.length_nil, List.length_replicate]; omega))
local macro_rules | `(tactic| walk_at "ix") => `(tactic| first | omega | (simp only [List.length_take, List.length_drop]; omega) | (simp only [decide_eq_true_eq, decide_eq_false_iff_not, Bool.not_eq_true] at *; omega) | ((try simp only [Int.fmod_eq_emod_of_nonneg _ (by decide : (0 : Int) ≤ 256), Int.fmod_eq_emod_of_nonneg _ (by decide : (0 : Int) ≤ 7), Int.fmod_eq_emod_of_nonneg _ (by decide : (0 : Int) ≤ 3), Int.fdiv_eq_ediv_of_nonneg _ (by decide : (0 : Int) ≤ 7), Int.fdiv_eq_ediv_of_nonneg _ (by decide : (0 : Int) ≤ 3)] at *); omega))
local macro_rules | `(tactic| walk_at "storeName") => `(tactic| (k_here; (with_reducible show wpAny _ _ (storeName (envOf _ _ _ _ _) _ _) _ _ _); (first | (with_reducible refine gen_int ?_; intro tk') | (with_reducible refine gen_str ?_; intro tk') | (with_reducible refine gen_bytes ?_; intro tk') | (with_reducible refine gen_kv ?_; intro tk') | skip); k_dflt (refine' st_any ?F ?N ?P ?_; (case F => with_reducible assumption); (case N => with_reducible assumption); (case P => walk_at "mput")); intro h' k' F' N'; (try dsimp only); (try k_sweep)))
local macro_rules | `(tactic| walk_at "eval Constant str") => `(tactic| (k_here; (first | refine o_const (l := [47]) (by decide) ?_ | refine o_const (l := [46]) (by decide) ?_ | refine o_const (l := []) (by decide) ?_); intro t' k'))
local macro_rules | `(tactic| walk_at "eval Constant bytes") => `(tactic| (k_here; (first | refine o_bconst (l := [47]) (by decide) ?_ | refine o_bconst (l := [46]) (by decide) ?_); intro t' k'))
local macro_rules | `(tactic| walk_at "call builtin:len") => `(tactic| (k_here; (first | with_reducible refine o_len ?hz ?_ | with_reducible refine o_blen ?hz ?_ | with_reducible refine k_len ?hz ?_); (case hz => walk_at "sz"); intro t' k'))
local macro_rules | `(tactic| walk_at "compareOp Eq") => `(tactic| (k_here; with_reducible refine k_eq ?a ?b ?_; (case a => walk_at "ok"); (case b => walk_at "ok")))
local macro_rules | `(tactic| walk_at "compareOp Eq str str") => `(tactic| (k_here; with_reducible refine o_eq ?_))
local macro_rules | `(tactic| walk_at "compareOp NotEq str str") => `(tactic| (k_here; with_reducible refine o_ne ?_))
local macro_rules | `(tactic| walk_at "compareOp Eq bytes bytes") => `(tactic| (k_here; with_reducible refine o_beq ?a ?b ?_; (case a => walk_at "oct"); (case b => walk_at "oct")))
local macro_rules | `(tactic| walk_at "compareOp NotEq bytes bytes") => `(tactic| (k_here; with_reducible refine o_bne ?a ?b ?_; (case a => walk_at "oct"); (case b => walk_at "oct")))
local macro_rules | `(tactic| walk_at "oct") => `(tactic| first | with_reducible assumption | ((with_reducible refine Oct.take ?_ _); walk_at "oct") | ((with_reducible refine Oct.drop ?_ _); walk_at "oct") | ((with_reducible refine Oct.rstr ?_ _); walk_at "oct") | ((with_reducible refine Oct.lstr ?_ _); walk_at "oct") | (with_reducible exact Oct.nil) | ((with_reducible refine Oct.rep ?_ _); first | with_reducible assumption | decide) | ((with_reducible refine Oct.one ?_); first | with_reducible assumption | decide))
local macro_rules | `(tactic| walk_at "ok") => `(tactic| first | with_reducible assumption | (with_reducible exact OK.nil) | ((with_reducible refine OK.one ?_); first | with_reducible assumption | decide) | ((with_reducible refine OK.take ?_ _); walk_at "ok") | ((with_reducible refine OK.drop ?_ _); walk_at "ok") | ((with_reducible refine OK.lstr ?_ _); walk_at "ok") | ((with_reducible refine OK.rstr ?_ _); walk_at "ok") | ((with_reducible refine OK.exch ?_); walk_at "ok") | ((with_reducible refine OK.splitH ?_); walk_at "ok") | ((with_reducible refine OK.spl1 ?_ _ _); walk_at "ok") | ((with_reducible refine OK.spl2 ?_ _ _); walk_at "ok") | ((with_reducible refine OK.rep ?_ _); first | with_reducible assumption | decide) | ((with_reducible refine OK.append ?_ ?_) <;> walk_at "ok"))
local macro_rules | `(tactic| walk_at "truthy") => `(tactic| (k_here; (first | with_reducible refine o_truthy ?hz ?_ | with_reducible refine o_btruthy ?hz ?_); (case hz => walk_at "sz"); intro k'))
local macro_rules | `(tactic| walk_at "binaryOp Add") => `(tactic| (k_here; with_reducible refine k_add ?hz ?_; (case hz => walk_at "sz"); intro t' k'))
local macro_rules | `(tactic| walk_at "binaryOp Add str str") => `(tactic| (k_here; with_reducible refine o_add ?hz ?_; (case hz => walk_at "sz"); intro t' k'))
local macro_rules | `(tactic| walk_at "inplaceOp Add str str") => `(tactic| (k_here; with_reducible refine o_iadd ?hz ?_; (case hz => walk_at "sz"); intro t' k'))
local macro_rules | `(tactic| walk_at "compareOp In str str") => `(tactic| (k_here; with_reducible refine o_in ?_))
local macro_rules | `(tactic| walk_at "call builtin:str.rfind") => `(tactic| (k_here; with_reducible refine o_rfind ?_; intro t' k'))
local macro_rules | `(tactic| walk_at "call builtin:bytes.rfind") => `(tactic| (k_here; with_reducible refine b_rfind ?a ?b ?_; (case a => walk_at "oct"); (case b => first | with_reducible assumption | decide); intro t' k'))
local macro_rules | `(tactic| walk_at "call builtin:bytes.rstrip") => `(tactic| (k_here; with_reducible refine b_rstrip ?a ?b ?c ?_; (case a => walk_at "oct"); (case b => first | with_reducible assumption | decide); (case c => walk_at "ix"); intro t' k'))
local macro_rules | `(tactic| walk_at "getMethod bytes") => `(tactic| (k_here; first | with_reducible refine b_method_rfind ?_ | with_reducible refine b_method_rstrip ?_))
local macro_rules | `(tactic| walk_at "call builtin:str.strip") => `(tactic| (k_here; with_reducible refine o_strip ?hz ?_; (case hz => walk_at "sz"); intro t' k'))
local macro_rules | `(tactic| walk_at "call builtin:str.lstrip") => `(tactic| (k_here; with_reducible refine o_lstrip ?hz ?_; (case hz => walk_at "sz"); intro t' k'))
local macro_rules | `(tactic| walk_at "call builtin:str.rstrip") => `(tactic| (k_here; with_reducible refine o_rstrip ?hz ?_; (case hz => walk_at "sz"); intro t' k'))
local macro_rules | `(tactic| walk_at "call builtin:ord") => `(tactic| (k_here; with_reducible refine o_ord ?_; intro t' k'))
local macro_rules | `(tactic| walk_at "call builtin:chr") => `(tactic| (k_here; with_reducible refine o_chr ?a ?b ?_; (case a => walk_at "ix"); (case b => walk_at "ix"); intro t' k'))
local macro_rules | `(tactic| walk_at "binaryOp Mult str int") => `(tactic| (k_here; with_reducible refine o_mul ?a ?b ?_; (case a => walk_at "ix"); (case b => walk_at "ix"); intro t' k'))
local macro_rules | `(tactic| walk_at "binaryOp Mult bytes int") => `(tactic| (k_here; with_reducible refine b_mul ?a ?b ?_; (case a => walk_at "ix"); (case b => walk_at "ix"); intro t' k'))
local macro_rules | `(tactic| walk_at "subscriptTail Name Name str int") => `(tactic| (k_here; (with_reducible show wpAny _ _ (subscriptTail _ _ (Value.str (S _) _) (Value.int _ _)) _ _ _); refine o_item ?a ?b ?c ?_; (case a => walk_at "ix"); (case b => walk_at "ix"); (case c => walk_at "sz"); intro t' k'))
local macro_rules | `(tactic| walk_at "subscriptTail") => `(tactic| (k_here; (with_reducible show wpAny _ _ (subscriptTail _ (Expr.Slice _ _ none _) (Value.str (S _) _) (Value.ref _)) _ _ _); (with_reducible rename Fr _ _ _ _ => F'); (with_reducible rename News _ _ _ _ => N'); (first
  | (refine o_to (s := ⟨_, _, _, _, _⟩) F' N' ?hz ?a ?_; (case hz => walk_at "sz"); (case a => walk_at "ix"))
  | (refine o_from (s := ⟨_, _, _, _, _⟩) F' N' ?hz ?a ?_; (case hz => walk_at "sz"); (case a => walk_at "ix"))
  | (refine o_mid (s := ⟨_, _, _, _, _⟩) F' N' ?hz ?a ?b ?c ?_; (case hz => walk_at "sz"); (case a => walk_at "ix"); (case b => walk_at "ix"); (case c => walk_at "ix"))); intro h' t' k' F' N'; (try k_sweep)))
local macro_rules | `(tactic| walk_at "subscriptTail Name Slice str ref") => `(tactic| walk_at "subscriptTail")
local macro_rules | `(tactic| walk_at "subscriptTail") => `(tactic| (k_here; (with_reducible show wpAny _ _ (subscriptTail _ (Expr.Slice _ _ none _) (Value.bytes (Bt _) _) (Value.ref _)) _ _ _); (with_reducible rename Fr _ _ _ _ => F'); (with_reducible rename News _ _ _ _ => N'); (first
  | (refine b_to (s := ⟨_, _, _, _, _⟩) F' N' ?hz ?a ?_; (case hz => walk_at "sz"); (case a => walk_at "ix"))
  | (refine b_from (s := ⟨_, _, _, _, _⟩) F' N' ?hz ?a ?_; (case hz => walk_at "sz"); (case a => walk_at "ix"))
  | (refine b_mid (s := ⟨_, _, _, _, _⟩) F' N' ?hz ?a ?b ?c ?_; (case hz => walk_at "sz"); (case a => walk_at "ix"); (case b => walk_at "ix"); (case c => walk_at "ix"))); intro h' t' k' F' N'; (try k_sweep)))
local macro_rules | `(tactic| walk_at "subscriptTail") => `(tactic| (k_here; (with_reducible show wpAny _ _ (subscriptTail _ (Expr.Slice _ _ none _) (kv _ _ _) (Value.ref _)) _ _ _); (with_reducible rename Fr _ _ _ _ => F'); (with_reducible rename News _ _ _ _ => N'); (refine k_from (s := ⟨_, _, _, _, _⟩) F' N' ?hz ?a ?_; (case hz => walk_at "sz"); (case a => walk_at "ix")); intro h' t' k' F' N'; (try k_sweep)))
local macro_rules | `(tactic| walk_at "compareOp NotEq ref ref") => `(tactic| (k_here; with_reducible refine k_ne_tup ?n ?x ?y ?a ?b ?c ?d ?u ?_; (case n => k_asm); (case x => k_mem); (case y => k_mem); (case a => walk_at "ok"); (case b => walk_at "ok"); (case c => walk_at "ok"); (case d => walk_at "ok"); (case u => walk_at "un")))
local macro_rules | `(tactic| walk_at "un") => `(tactic| (have hcL9 := cLine_is; (try simp only [units_in1, units_deeper, Around.mark_units, units_caller]); (try dsimp only [ktrTop] at *); omega))
local macro_rules | `(tactic| walk_at "go1") => `(tactic| first | (k_unfold; (try dsimp only)) | walk1 | (dsimp only; walk1) | (leave1; walk_say "STEP leave1"; try dsimp only))
local macro_rules | `(tactic| walk_at "nowhile") => `(tactic| fail_if_success (with_reducible show wpAny _ _ (exec (Stmt.While _ _ _ _) _) _ _ _))
local macro_rules | `(tactic| walk_at "nofor") => `(tactic| fail_if_success (with_reducible show wpAny _ _ (exec (Stmt.For _ _ _ _ _) _) _ _ _))
local macro_rules | `(tactic| walk_at "nocomp") => `(tactic| fail_if_success (with_reducible show wpAny _ _ (eval (Expr.ListComp _ _ _ _) _) _ _ _))
local macro_rules | `(tactic| walk_at "noiter") => `(tactic| fail_if_success (with_reducible show wpAny _ _ (pyIter _) _ _ _))
local macro_rules | `(tactic| walk_at "go") => `(tactic| repeat' ((walk_at "nowhile"); (walk_at "nofor"); (walk_at "nocomp"); (walk_at "noiter"); (walk_at "go1")))
local macro_rules | `(tactic| walk_at "room") => `(tactic| ((try simp only [depth_in1, depth_deeper, depth_caller]); (try dsimp only [ktrTop] at *); omega))
local macro_rules | `(tactic| walk_at "call ref") => `(tactic| (k_here; (with_reducible show wpAny _ _ (call (Value.ref 159) _ _) _ _ _); k_dflt ((refine' use_same (ct_last _ _ _ _ _ ?hl).n ?B ?F ?X ?N ?T ?hk ?hd ?hu ?_); (case hl => walk_at "sz"); (case B => k_asm); (case F => k_asm); (case X => k_asm); (case N => k_asm); (case T => k_asm); (case hk => first | exact rfl | with_reducible assumption); (case hd => walk_at "room"); (case hu => walk_at "un"); rintro v9 h9 k9 ⟨tk9, e9⟩ F9 N9; subst e9; (try dsimp only); (try k_sweep))))
local macro_rules | `(tactic| walk_at "call ref") => `(tactic| (k_here; (with_reducible show wpAny _ _ (call (Value.ref 152) _ _) _ _ _); k_dflt ((refine' use_same (ct_exchange _ _ _ ?hl).n ?B ?F ?X ?N ?T ?hk ?hd ?hu ?_); (case hl => walk_at "sz"); (case B => k_asm); (case F => k_asm); (case X => k_asm); (case N => k_asm); (case T => k_asm); (case hk => first | exact rfl | with_reducible assumption); (case hd => walk_at "room"); (case hu => walk_at "un"); rintro v9 h9 k9 ⟨tk9, e9⟩ F9 N9; subst e9; (try dsimp only); (try k_sweep))))
local macro_rules | `(tactic| walk_at "call ref") => `(tactic| (k_here; (with_reducible show wpAny _ _ (call (Value.ref 145) _ _) _ _ _); k_dflt ((refine' use_same (ct_kind _ _ _ _ ?hl ?ok).n ?B ?F ?X ?N ?T ?hk ?hd ?hu ?_); (case hl => walk_at "sz"); (case ok => walk_at "ok"); (case B => k_asm); (case F => k_asm); (case X => k_asm); (case N => k_asm); (case T => k_asm); (case hk => first | exact rfl | with_reducible assumption); (case hd => walk_at "room"); (case hu => walk_at "un"); rintro v9 h9 k9 ⟨tk9, e9⟩ F9 N9; subst e9; (try dsimp only); (try k_sweep))))
local macro_rules | `(tactic| walk_at "call ref") => `(tactic| (k_here; (with_reducible show wpAny _ _ (call (Value.ref 140) _ _) _ _ _); k_dflt ((refine' use_same (ct_signs _ _ _).n ?B ?F ?X ?N ?T ?hk ?hd ?hu ?_);  (case B => k_asm); (case F => k_asm); (case X => k_asm); (case N => k_asm); (case T => k_asm); (case hk => first | exact rfl | with_reducible assumption); (case hd => walk_at "room"); (case hu => walk_at "un"); rintro v9 h9 k9 ⟨l9, tk9, e9, hl9, ho9⟩ F9 N9; subst e9; (try dsimp only); (try k_sweep))))
local macro_rules | `(tactic| walk_at "call ref") => `(tactic| (k_here; (with_reducible show wpAny _ _ (call (Value.ref 108) _ _) _ _ _); k_dflt ((refine' use_tup (ct_spl _ _ _ _ _ _ _ _ ?hl ?ok ?ha ?hb).n ?B ?F ?X ?N ?T ?hk ?hd ?hu ?_); (case hl => walk_at "sz"); (case ok => walk_at "ok"); (case ha => first | with_reducible assumption | decide); (case hb => first | with_reducible assumption | decide); (case B => k_asm); (case F => k_asm); (case X => k_asm); (case N => k_asm); (case T => k_asm); (case hk => first | exact rfl | with_reducible assumption); (case hd => walk_at "room"); (case hu => walk_at "un"); intro D9 u9 w9 h9 k9 F9 N9; (try dsimp only); (try k_sweep))))
local macro_rules | `(tactic| walk_at "call ref") => `(tactic| (k_here; (with_reducible show wpAny _ _ (call (Value.ref 108) _ _) _ _ _); k_dflt ((refine' use_tup (o := false) (ct_splitext_s _ _ _ _ _ _ _ ?hl).n ?B ?F ?X ?N ?T ?hk ?hd ?hu ?_); (case hl => walk_at "sz"); (case B => k_asm); (case F => k_asm); (case X => k_asm); (case N => k_asm); (case T => k_asm); (case hk => first | exact rfl | with_reducible assumption); (case hd => walk_at "room"); (case hu => walk_at "un"); intro D9 u9 w9 h9 k9 F9 N9; (try dsimp only); (try k_sweep))))
local macro_rules | `(tactic| walk_at "call ref") => `(tactic| (k_here; (with_reducible show wpAny _ _ (call (Value.ref 108) _ _) _ _ _); k_dflt ((refine' use_tup (o := true) (ct_splitext_b _ _ _ _ _ _ _ ?hl ?oct ?ha ?hb).n ?B ?F ?X ?N ?T ?hk ?hd ?hu ?_); (case hl => walk_at "sz"); (case oct => walk_at "oct"); (case ha => first | with_reducible assumption | decide); (case hb => first | with_reducible assumption | decide); (case B => k_asm); (case F => k_asm); (case X => k_asm); (case N => k_asm); (case T => k_asm); (case hk => first | exact rfl | with_reducible assumption); (case hd => walk_at "room"); (case hu => walk_at "un"); intro D9 u9 w9 h9 k9 F9 N9; (try dsimp only); (try k_sweep))))
local macro_rules | `(tactic| walk_at "call ref") => `(tactic| (k_here; (with_reducible show wpAny _ _ (call (Value.ref 101) _ _) _ _ _); k_dflt ((refine' use_same (ct_fspath_s _ _ _).n ?B ?F ?X ?N ?T ?hk ?hd ?hu ?_);  (case B => k_asm); (case F => k_asm); (case X => k_asm); (case N => k_asm); (case T => k_asm); (case hk => first | exact rfl | with_reducible assumption); (case hd => walk_at "room"); (case hu => walk_at "un"); rintro v9 h9 k9 e9 F9 N9; subst e9; (try dsimp only); (try k_sweep))))
local macro_rules | `(tactic| walk_at "call ref") => `(tactic| (k_here; (with_reducible show wpAny _ _ (call (Value.ref 101) _ _) _ _ _); k_dflt ((refine' use_same (ct_fspath_b _ _ _).n ?B ?F ?X ?N ?T ?hk ?hd ?hu ?_);  (case B => k_asm); (case F => k_asm); (case X => k_asm); (case N => k_asm); (case T => k_asm); (case hk => first | exact rfl | with_reducible assumption); (case hd => walk_at "room"); (case hu => walk_at "un"); rintro v9 h9 k9 e9 F9 N9; subst e9; (try dsimp only); (try k_sweep))))
local macro_rules | `(tactic| walk_at "call ref") => `(tactic| (k_here; (with_reducible show wpAny _ _ (call (Value.ref 115) _ _) _ _ _); k_dflt ((refine' use_same (ct_getsep_s _ _ _).n ?B ?F ?X ?N ?T ?hk ?hd ?hu ?_);  (case B => k_asm); (case F => k_asm); (case X => k_asm); (case N => k_asm); (case T => k_asm); (case hk => first | exact rfl | with_reducible assumption); (case hd => walk_at "room"); (case hu => walk_at "un"); rintro v9 h9 k9 ⟨tk9, e9⟩ F9 N9; subst e9; (try dsimp only); (try k_sweep))))
local macro_rules | `(tactic| walk_at "call ref") => `(tactic| (k_here; (with_reducible show wpAny _ _ (call (Value.ref 115) _ _) _ _ _); k_dflt ((refine' use_same (ct_getsep_b _ _ _).n ?B ?F ?X ?N ?T ?hk ?hd ?hu ?_);  (case B => k_asm); (case F => k_asm); (case X => k_asm); (case N => k_asm); (case T => k_asm); (case hk => first | exact rfl | with_reducible assumption); (case hd => walk_at "room"); (case hu => walk_at "un"); rintro v9 h9 k9 ⟨tk9, e9⟩ F9 N9; subst e9; (try dsimp only); (try k_sweep))))
local macro_rules | `(tactic| walk_at "call ref") => `(tactic| (k_here; (with_reducible show wpAny _ _ (call (Value.ref 166) _ _) _ _ _); k_dflt ((refine' use_tup (ct_cut _ _ _ _ _ _ ?hl ?ok ?hc) ?B ?F ?X ?N ?T ?hk ?hd ?hu ?_); (case hl => walk_at "sz"); (case ok => walk_at "ok"); (case hc => first | with_reducible assumption | decide); (case B => k_asm); (case F => k_asm); (case X => k_asm); (case N => k_asm); (case T => k_asm); (case hk => first | exact rfl | with_reducible assumption); (case hd => walk_at "room"); (case hu => walk_at "un"); intro D9 u9 w9 h9 k9 F9 N9; (try dsimp only); (try k_sweep))))
local macro_rules | `(tactic| walk_at "call ref") => `(tactic| (k_here; (with_reducible show wpAny _ _ (call (Value.ref 173) _ _) _ _ _); k_dflt ((refine' use_tup (ct_due _ _ _ _ ?hl ?ok) ?B ?F ?X ?N ?T ?hk ?hd ?hu ?_); (case hl => walk_at "sz"); (case ok => walk_at "ok"); (case B => k_asm); (case F => k_asm); (case X => k_asm); (case N => k_asm); (case T => k_asm); (case hk => first | exact rfl | with_reducible assumption); (case hd => walk_at "room"); (case hu => walk_at "un"); intro D9 u9 w9 h9 k9 F9 N9; (try dsimp only); (try k_sweep))))
local macro_rules | `(tactic| walk_at "call ref") => `(tactic| (k_here; (with_reducible show wpAny _ _ (call (Value.ref 122) _ _) _ _ _); k_dflt ((refine' use_tup (ct_split _ _ _ _ ?hl ?ok) ?B ?F ?X ?N ?T ?hk ?hd ?hu ?_); (case hl => walk_at "sz"); (case ok => walk_at "ok"); (case B => k_asm); (case F => k_asm); (case X => k_asm); (case N => k_asm); (case T => k_asm); (case hk => first | exact rfl | with_reducible assumption); (case hd => walk_at "room"); (case hu => walk_at "un"); intro D9 u9 w9 h9 k9 F9 N9; (try dsimp only); (try k_sweep))))
local macro_rules | `(tactic| walk_at "call ref") => `(tactic| (k_here; (with_reducible show wpAny _ _ (call (Value.ref 129) _ _) _ _ _); k_dflt ((refine' use_tup (ct_spt _ _ _ _ ?hl ?ok) ?B ?F ?X ?N ?T ?hk ?hd ?hu ?_); (case hl => walk_at "sz"); (case ok => walk_at "ok"); (case B => k_asm); (case F => k_asm); (case X => k_asm); (case N => k_asm); (case T => k_asm); (case hk => first | exact rfl | with_reducible assumption); (case hd => walk_at "room"); (case hu => walk_at "un"); intro D9 u9 w9 h9 k9 F9 N9; (try dsimp only); (try k_sweep))))
local macro_rules | `(tactic| walk_at "compareOp NotEq ref ref") => `(tactic| (k_here; k_dflt ((refine' k_ne_same2 ?n ?x ?y ?a ?b ?e1 ?e2 ?u ?_); (case n => k_asm); (case x => k_mem); (case y => k_mem); (case a => walk_at "ok"); (case b => walk_at "ok"); (case e1 => with_reducible assumption); (case e2 => with_reducible assumption); (case u => walk_at "un"))))
local macro_rules | `(tactic| walk_at "ite") => `(tactic| first | with_reducible refine ite_ff ?_ | with_reducible refine ite_tt ?_)
local macro_rules | `(tactic| walk_at "mem") => `(tactic| first | with_reducible assumption | exact List.Mem.head _ | (refine' List.mem_cons_of_mem _ ?_; walk_at "mem"))
local macro_rules | `(tactic| walk_at "sz") => `(tactic| ((with_reducible refine sz_cuts ?_); walk_at "sz"))
local macro_rules | `(tactic| walk_at "same") => `(tactic| first | with_reducible assumption | (with_reducible exact Same.rf) | exact b_h1 (by with_reducible assumption) (by with_reducible assumption) | exact b_h2 (by with_reducible assumption) (by with_reducible assumption))
local macro_rules | `(tactic| walk_at "ix") => `(tactic| first | exact b_k (by with_reducible assumption) (by with_reducible assumption) | (have h9 := c_ix (by with_reducible assumption) (by with_reducible assumption) (by with_reducible assumption); omega))
local macro_rules | `(tactic| walk_at "subscriptTail") => `(tactic| (k_here; (with_reducible show wpAny _ _ (subscriptTail _ _ (Value.ref _) (Value.int 0 _)) _ _ _); k_dflt ((refine' o_first ?n ?m ?i ?x ?_); (case n => k_asm); (case m => walk_at "mem"); (case i => with_reducible assumption); (case x => with_reducible assumption); intro t')))
local macro_rules | `(tactic| walk_at "subscriptTail") => `(tactic| (k_here; (with_reducible show wpAny _ _ (subscriptTail _ _ (Value.ref _) (Value.int 0 _)) _ _ _); k_dflt ((refine' t_item0 ?n ?m ?_); (case n => k_asm); (case m => walk_at "mem"))))
local macro_rules | `(tactic| walk_at "subscriptTail") => `(tactic| (k_here; (with_reducible show wpAny _ _ (subscriptTail _ _ (Value.ref _) (Value.int 1 _)) _ _ _); k_dflt ((refine' t_item1 ?n ?m ?_); (case n => k_asm); (case m => walk_at "mem"))))
local macro_rules | `(tactic| walk_at "subscriptTail Name Constant ref int") => `(tactic| walk_at "subscriptTail")
local macro_rules | `(tactic| walk_at "compareOp NotEq ref ref") => `(tactic| (k_here; k_dflt ((refine' o_ne_lists ?n ?x ?y ?a ?b ?e ?u ?_); (case n => k_asm); (case x => walk_at "mem"); (case y => walk_at "mem"); (case a => with_reducible assumption); (case b => with_reducible assumption); (case e => exact SameL.eq (by with_reducible assumption)); (case u => walk_at "un"))))
local macro_rules | `(tactic| walk_at "compareOp NotEq ref ref") => `(tactic| (k_here; k_dflt ((refine' k_ne_same2 ?n ?x ?y ?a ?b ?e1 ?e2 ?u ?_); (case n => k_asm); (case x => walk_at "mem"); (case y => walk_at "mem"); (case a => walk_at "ok"); (case b => walk_at "ok"); (case e1 => walk_at "same"); (case e2 => walk_at "same"); (case u => walk_at "un"))))
local macro_rules | `(tactic| walk_at "binaryOp Add") => `(tactic| (k_here; (with_reducible show wpAny _ _ (binaryOp _ (kv _ _ _) (kv _ _ _)) _ _ _); k_dflt ((refine' k_add ?hz ?_); (case hz => walk_at "sz"); intro t' k')))
local macro_rules | `(tactic| walk_at "binaryOp Add ref ref") => `(tactic| (k_here; k_dflt ((refine' o_cons ?F ?N ?m ?m2 ?j ?z ?_); (case F => k_asm); (case N => k_asm); (case m => walk_at "mem"); (case m2 => walk_at "mem"); (case j => with_reducible assumption); (case z => walk_at "sz"); intro vs9 D9 h9 hvs9 F9 N9; (try dsimp only); (try k_sweep))))
local macro_rules | `(tactic| walk_at "call builtin:str.split") => `(tactic| (k_here; k_dflt ((refine' o_split ?F ?N ?z ?_); (case F => k_asm); (case N => k_asm); (case z => walk_at "sz"); intro vs9 D9 h9 k9 hvs9 F9 N9; (try dsimp only); (try k_sweep))))
local macro_rules | `(tactic| walk_at "subscriptTail Name Slice ref ref") => `(tactic| (k_here; (with_reducible show wpAny _ _ (subscriptTail _ (Expr.Slice _ _ none _) (Value.ref _) (Value.ref _)) _ _ _); k_dflt ((with_reducible rename Fr _ _ _ _ => F'); (with_reducible rename News _ _ _ _ => N'); (refine' o_rest (s := ⟨_, _, _, _, _⟩) F' N' ?m ?i ?z ?e ?_); (case m => walk_at "mem"); (case i => with_reducible assumption); (case z => walk_at "sz"); (case e => exact cuts_pos _ _); intro vs9 D9 h9 hvs9 F9 N9; (try dsimp only); (try k_sweep))))
local macro_rules | `(tactic| walk_at "nopieces") => `(tactic| fail_if_success (with_reducible show wpAny _ _ (execs (Stmt.Assign [Expr.Name (Str.ofString "pieces") _] _ _ :: _) _) _ _ _))
local macro_rules | `(tactic| walk_at "noswapped") => `(tactic| fail_if_success (with_reducible show wpAny _ _ (execs (Stmt.Assign [Expr.Name (Str.ofString "swapped") _] _ _ :: _) _) _ _ _))
local macro_rules | `(tactic| walk_at "goB") => `(tactic| repeat' ((walk_at "nowhile"); (walk_at "nofor"); (walk_at "nocomp"); (walk_at "noiter"); (walk_at "nopieces"); (walk_at "go1")))
local macro_rules | `(tactic| walk_at "goC") => `(tactic| repeat' ((walk_at "nowhile"); (walk_at "nofor"); (walk_at "nocomp"); (walk_at "noiter"); (walk_at "noswapped"); (walk_at "go1")))
structure St where
  ps : List (List Nat)
  left : List Nat
  ys : List Value
  D : Addr
  P : Addr
  u1 : Tok
  u2 : Tok
  tl : Tok
  nx : List (Addr × Obj)
theorem seg_c (w : World) (o : Bool) (l : List Nat) (hl : l.length ≤ 100) (ho : OK o l) (i : Int) (hi0 : 0 ≤ i) (hi1 : i ≤ 200) (hc : i.toNat ∉ l) (v1 v2 v3 v5 v6 v7 v8 v9 : Value) (t1 t2 t3 : Tok) (nw : List (Addr × Obj)) :
    Seg w 15 [(Str.ofString "script", v1), (Str.ofString "numbers", v2), (Str.ofString "octets", .bool o), (Str.ofString "text", .str (S l) t1), (Str.ofString "code", v3), (Str.ofString "free", .str (S [i.toNat]) t3), (Str.ofString "thing", kv o l t2),
      (Str.ofString "told", v5), (Str.ofString "k", v6), (Str.ofString "due", v7), (Str.ofString "dot", v8), (Str.ofString "inner", v9)] nw := by
  unfold Seg
  k_fill
  intro p loose mean mg mb dp un gd a ccd outer A₀ base h₀ L s Q E B F X N T hd hu hpo hret
  have hc8 : i.toNat < 256 := by omega
  have hlen : (lstr 47 l).length ≤ l.length := len_dropWhile _ _
  with_unfolding_all refine wpAny_execs_cons ?_
  walk_at "goC"
  rename Fr _ _ _ _ => kF
  rename News _ _ _ _ => kN
  refine' while_mp (σ := St) (fun c => [(Str.ofString "script", v1), (Str.ofString "numbers", v2), (Str.ofString "octets", .bool o), (Str.ofString "text", .str (S l) t1), (Str.ofString "code", v3), (Str.ofString "free", .str (S [i.toNat]) t3), (Str.ofString "thing", kv o l t2),
      (Str.ofString "told", v5), (Str.ofString "k", v6), (Str.ofString "due", v7), (Str.ofString "dot", v8), (Str.ofString "inner", v9), (Str.ofString "pieces", .ref c.D), (Str.ofString "left", .str (S c.left) c.tl), (Str.ofString "part", .ref c.P)]) (fun c => c.nx)
    (fun c => Pcs l c.ps c.left ∧ c.ps.length ≤ 100 ∧ c.left.length ≤ 100 ∧ OK o c.left ∧ StrsAre c.ys (c.ps.map S) ∧ (c.D, lst0 c.ys) ∈ c.nx ∧ (c.P, tup [kv o (spl i.toNat 47 c.left).1 c.u1, kv o (spl i.toNat 47 c.left).2 c.u2]) ∈ c.nx) (fun c => c.left.length) ⟨[], l, [], _, _, ?u1, ?u2, _, _⟩ kF kN ?h0 ?turn hpo
  case h0 => exact ⟨pcs_0 l, by simp, hl, ho, .nil, by walk_at "mem", by walk_at "mem"⟩
  case turn =>
    rintro ⟨ps, left, ys, D, P, u1, u2, tl, nx⟩ h tk F1 N1 ⟨I, hps, hlf, hol, hys, hD, hP⟩
    dsimp only at F1 N1 I hps hlf hol hys hD hP ⊢
    clear kF kN
    walk_at "goC"
    · rename_i vs9 D9a h9a hvs h3 k4 t1' k3 h2 t' k2 tkL h1 k1 D9 u9 w9 h9 k9 h' k' F' N'
      have c1 := c_step' hc I (by with_reducible assumption)
      have cn := c1.1.num
      exact ⟨⟨_ :: ps, _, vs9, D9a, D9, u9, w9, tkL, _⟩, h', k', rfl, F', N', ⟨c1.1, Nat.le_trans cn hl, sz_take hl, ho.take _, hvs, by walk_at "mem", by walk_at "mem"⟩, c1.2⟩
    all_goals (obtain ⟨r0, q1, q2, q3, q4⟩ := c_end' hc I (by with_reducible assumption))
    all_goals (walk_at "goC")
    · exact absurd q3.eq (by assumption)
    · rename Fr _ _ _ _ => F9
      rename News _ _ _ _ => N9
      with_unfolding_all exact seg_d w o l hl ho _ _ _ _ _ _ _ _ _ _ _ _ _ _ _ _ p loose mean mg mb dp un gd a ccd outer A₀ base h₀ L _ Q E B F9 X N9 T hd hu hpo hret
end Mine
namespace Mine
open PySem.Builtin
local macro_rules | `(tactic| walk_at "mput") => `(tactic| first | exact Put.nil | with_reducible exact Put.here | (refine' Put.there ?pa ?pb; (case pa => decide); (case pb => walk_at "mput")))
local macro_rules | `(tactic| walk_at "sz") => `(tactic| first | with_reducible assumption | omega | ((with_reducible refine sz_take ?_); walk_at "sz") | ((with_reducible refine sz_drop ?_); walk_at "sz") | ((with_reducible refine sz_lstr ?_); walk_at "sz") | ((with_reducible refine sz_rstr ?_); walk_at "sz") | ((with_reducible refine sz_spl1 ?_); walk_at "sz") | ((with_reducible refine sz_spl2 ?_); walk_at "sz") | ((with_reducible refine sz_map ?_); walk_at "sz") | (simp only [List.length_take, List.length_drop, List.length_append, List.length_map, List.length_cons, List.length_nil, List.length_replicate]; omega))
local macro_rules | `(tactic| walk_at "ix") => `(tactic| first | omega | (simp only [List.length_take, List.length_drop]; omega) | (simp only [decide_eq_true_eq, decide_eq_false_iff_not, Bool.not_eq_true] at *; omega) | ((try simp only [Int.fmod_eq_emod_of_nonneg _ (by decide : (0 : Int) ≤ 256), Int.fmod_eq_emod_of_nonneg _ (by decide : (0 : Int) ≤ 7), Int.fmod_eq_emod_of_nonneg _ (by decide : (0 : Int) ≤ 3), Int.fdiv_eq_ediv_of_nonneg _ (by decide : (0 : Int) ≤ 7), Int.fdiv_eq_ediv_of_nonneg _ (by decide : (0 : Int) ≤ 3)] at *); omega))
local macro_rules | `(tactic| walk_at "storeName") => `(tactic| (k_here; (with_reducible show wpAny _ _ (storeName (envOf _ _ _ _ _) _ _) _ _ _); (first | (with_reducible refine gen_int ?_; intro tk') | (with_reducible refine gen_str ?_; intro tk') | (with_reducible refine gen_bytes ?_; intro tk') | (with_reducible refine gen_kv ?_; intro tk') | skip); k_dflt (refine' st_any ?F ?N ?P ?_; (case F => with_reducible assumption); (case N => with_reducible assumption); (case P => walk_at "mput")); intro h' k' F' N'; (try dsimp only); (try k_sweep)))
local macro_rules | `(tactic| walk_at "eval Constant str") => `(tactic| (k_here; (first | refine o_const (l := [47]) (by decide) ?_ | refine o_const (l := [46]) (by decide) ?_ | refine o_const (l := []) (by decide) ?_); intro t' k'))
local macro_rules | `(tactic| walk_at "eval Constant bytes") => `(tactic| (k_here; (first | refine o_bconst (l := [47]) (by decide) ?_ | refine o_bconst (l := [46]) (by decide) ?_); intro t' k'))
local macro_rules | `(tactic| walk_at "call builtin:len") => `(tactic| (k_here; (first | with_reducible refine o_len ?hz ?_ | with_reducible refine o_blen ?hz ?_ | with_reducible refine k_len ?hz ?_); (case hz => walk_at "sz"); intro t' k'))
local macro_rules | `(tactic| walk_at "compareOp Eq") => `(tactic| (k_here; with_reducible refine k_eq ?a ?b ?_; (case a => walk_at "ok"); (case b => walk_at "ok")))
local macro_rules | `(tactic| walk_at "compareOp Eq str str") => `(tactic| (k_here; with_reducible refine o_eq ?_))
local macro_rules | `(tactic| walk_at "compareOp NotEq str str") => `(tactic| (k_here; with_reducible refine o_ne ?_))
local macro_rules | `(tactic| walk_at "compareOp Eq bytes bytes") => `(tactic| (k_here; with_reducible refine o_beq ?a ?b ?_; (case a => walk_at "oct"); (case b => walk_at "oct")))
local macro_rules | `(tactic| walk_at "compareOp NotEq bytes bytes") => `(tactic| (k_here; with_reducible refine o_bne ?a ?b ?_; (case a => walk_at "oct"); (case b => walk_at "oct")))
local macro_rules | `(tactic| walk_at "oct") => `(tactic| first | with_reducible assumption | ((with_reducible refine Oct.take ?_ _); walk_at "oct") | ((with_reducible refine Oct.drop ?_ _); walk_at "oct") | ((with_reducible refine Oct.rstr ?_ _); walk_at "oct") | ((with_reducible refine Oct.lstr ?_ _); walk_at "oct") | (with_reducible exact Oct.nil) | ((with_reducible refine Oct.rep ?_ _); first | with_reducible assumption | decide) | ((with_reducible refine Oct.one ?_); first | with_reducible assumption | decide))
local macro_rules | `(tactic| walk_at "ok") => `(tactic| first | with_reducible assumption | (with_reducible exact OK.nil) | ((with_reducible refine OK.one ?_); first | with_reducible assumption | decide) | ((with_reducible refine OK.take ?_ _); walk_at "ok") | ((with_reducible refine OK.drop ?_ _); walk_at "ok") | ((with_reducible refine OK.lstr ?_ _); walk_at "ok") | ((with_reducible refine OK.rstr ?_ _); walk_at "ok") | ((with_reducible refine OK.exch ?_); walk_at "ok") | ((with_reducible refine OK.splitH ?_); walk_at "ok") | ((with_reducible refine OK.spl1 ?_ _ _); walk_at "ok") | ((with_reducible refine OK.spl2 ?_ _ _); walk_at "ok") | ((with_reducible refine OK.rep ?_ _); first | with_reducible assumption | decide) | ((with_reducible refine OK.append ?_ ?_) <;> walk_at "ok"))
local macro_rules | `(tactic| walk_at "truthy") => `(tactic| (k_here; (first | with_reducible refine o_truthy ?hz ?_ | with_reducible refine o_btruthy ?hz ?_); (case hz => walk_at "sz"); intro k'))
local macro_rules | `(tactic| walk_at "binaryOp Add") => `(tactic| (k_here; with_reducible refine k_add ?hz ?_; (case hz => walk_at "sz"); intro t' k'))
local macro_rules | `(tactic| walk_at "binaryOp Add str str") => `(tactic| (k_here; with_reducible refine o_add ?hz ?_; (case hz => walk_at "sz"); intro t' k'))
local macro_rules | `(tactic| walk_at "inplaceOp Add str str") => `(tactic| (k_here; with_reducible refine o_iadd ?hz ?_; (case hz => walk_at "sz"); intro t' k'))
local macro_rules | `(tactic| walk_at "compareOp In str str") => `(tactic| (k_here; with_reducible refine o_in ?_))
local macro_rules | `(tactic| walk_at "call builtin:str.rfind") => `(tactic| (k_here; with_reducible refine o_rfind ?_; intro t' k'))
local macro_rules | `(tactic| walk_at "call builtin:bytes.rfind") => `(tactic| (k_here; with_reducible refine b_rfind ?a ?b ?_; (case a => walk_at "oct"); (case b => first | with_reducible assumption | decide); intro t' k'))
local macro_rules | `(tactic| walk_at "call builtin:bytes.rstrip") => `(tactic| (k_here; with_reducible refine b_rstrip ?a ?b ?c ?_; (case a => walk_at "oct"); (case b => first | with_reducible assumption | decide); (case c => walk_at "ix"); intro t' k'))
local macro_rules | `(tactic| walk_at "getMethod bytes") => `(tactic| (k_here; first | with_reducible refine b_method_rfind ?_ | with_reducible refine b_method_rstrip ?_))
local macro_rules | `(tactic| walk_at "call builtin:str.strip") => `(tactic| (k_here; with_reducible refine o_strip ?hz ?_; (case hz => walk_at "sz"); intro t' k'))
local macro_rules | `(tactic| walk_at "call builtin:str.lstrip") => `(tactic| (k_here; with_reducible refine o_lstrip ?hz ?_; (case hz => walk_at "sz"); intro t' k'))
local macro_rules | `(tactic| walk_at "call builtin:str.rstrip") => `(tactic| (k_here; with_reducible refine o_rstrip ?hz ?_; (case hz => walk_at "sz"); intro t' k'))
local macro_rules | `(tactic| walk_at "call builtin:ord") => `(tactic| (k_here; with_reducible refine o_ord ?_; intro t' k'))
local macro_rules | `(tactic| walk_at "call builtin:chr") => `(tactic| (k_here; with_reducible refine o_chr ?a ?b ?_; (case a => walk_at "ix"); (case b => walk_at "ix"); intro t' k'))
local macro_rules | `(tactic| walk_at "binaryOp Mult str int") => `(tactic| (k_here; with_reducible refine o_mul ?a ?b ?_; (case a => walk_at "ix"); (case b => walk_at "ix"); intro t' k'))
local macro_rules | `(tactic| walk_at "binaryOp Mult bytes int") => `(tactic| (k_here; with_reducible refine b_mul ?a ?b ?_; (case a => walk_at "ix"); (case b => walk_at "ix"); intro t' k'))
local macro_rules | `(tactic| walk_at "subscriptTail Name Name str int") => `(tactic| (k_here; (with_reducible show wpAny _ _ (subscriptTail _ _ (Value.str (S _) _) (Value.int _ _)) _ _ _); refine o_item ?a ?b ?c ?_; (case a => walk_at "ix"); (case b => walk_at "ix"); (case c => walk_at "sz"); intro t' k'))
local macro_rules | `(tactic| walk_at "subscriptTail") => `(tactic| (k_here; (with_reducible show wpAny _ _ (subscriptTail _ (Expr.Slice _ _ none _) (Value.str (S _) _) (Value.ref _)) _ _ _); (with_reducible rename Fr _ _ _ _ => F'); (with_reducible rename News _ _ _ _ => N'); (first
  | (refine o_to (s := ⟨_, _, _, _, _⟩) F' N' ?hz ?a ?_; (case hz => walk_at "sz"); (case a => walk_at "ix"))
  | (refine o_from (s := ⟨_, _, _, _, _⟩) F' N' ?hz ?a ?_; (case hz => walk_at "sz"); (case a => walk_at "ix"))
  | (refine o_mid (s := ⟨_, _, _, _, _⟩) F' N' ?hz ?a ?b ?c ?_; (case hz => walk_at "sz"); (case a => walk_at "ix"); (case b => walk_at "ix"); (case c => walk_at "ix"))); intro h' t' k' F' N'; (try k_sweep)))
local macro_rules | `(tactic| walk_at "subscriptTail Name Slice str ref") => `(tactic| walk_at "subscriptTail")
local macro_rules | `(tactic| walk_at "subscriptTail") => `(tactic| (k_here; (with_reducible show wpAny _ _ (subscriptTail _ (Expr.Slice _ _ none _) (Value.bytes (Bt _) _) (Value.ref _)) _ _ _); (with_reducible rename Fr _ _ _ _ => F'); (with_reducible rename News _ _ _ _ => N'); (first
  | (refine b_to (s := ⟨_, _, _, _, _⟩) F' N' ?hz ?a ?_; (case hz => walk_at "sz"); (case a => walk_at "ix"))
  | (refine b_from (s := ⟨_, _, _, _, _⟩) F' N' ?hz ?a ?_; (case hz => walk_at "sz"); (case a => walk_at "ix"))
  | (refine b_mid (s := ⟨_, _, _, _, _⟩) F' N' ?hz ?a ?b ?c ?_; (case hz => walk_at "sz"); (case a => walk_at "ix"); (case b => walk_at "ix"); (case c => walk_at "ix"))); intro h' t' k' F' N'; (try k_sweep)))
local macro_rules | `(tactic| walk_at "subscriptTail") => `(tactic| (k_here; (with_reducible show wpAny _ _ (subscriptTail _ (Expr.Slice _ _ none _) (kv _ _ _) (Value.ref _)) _ _ _); (with_reducible rename Fr _ _ _ _ => F'); (with_reducible rename News _ _ _ _ => N'); (refine k_from (s := ⟨_, _, _, _, _⟩) F' N' ?hz ?a ?_; (case hz => walk_at "sz"); (case a => walk_at "ix")); intro h' t' k' F' N'; (try k_sweep)))
local macro_rules | `(tactic| walk_at "compareOp NotEq ref ref") => `(tactic| (k_here; with_reducible refine k_ne_tup ?n ?x ?y ?a ?b ?c ?d ?u ?_; (case n => k_asm); (case x => k_mem); (case y => k_mem); (case a => walk_at "ok"); (case b => walk_at "ok"); (case c => walk_at "ok"); (case d => walk_at "ok"); (case u => walk_at "un")))
local macro_rules | `(tactic| walk_at "un") => `(tactic| (have hcL9 := cLine_is; (try simp only [units_in1, units_deeper, Around.mark_units, units_caller]); (try dsimp only [ktrTop] at *); omega))
local macro_rules | `(tactic| walk_at "go1") => `(tactic| first | (k_unfold; (try dsimp only)) | walk1 | (dsimp only; walk1) | (leave1; walk_say "STEP leave1"; try dsimp only))
local macro_rules | `(tactic| walk_at "nowhile") => `(tactic| fail_if_success (with_reducible show wpAny _ _ (exec (Stmt.While _ _ _ _) _) _ _ _))
local macro_rules | `(tactic| walk_at "nofor") => `(tactic| fail_if_success (with_reducible show wpAny _ _ (exec (Stmt.For _ _ _ _ _) _) _ _ _))
local macro_rules | `(tactic| walk_at "nocomp") => `(tactic| fail_if_success (with_reducible show wpAny _ _ (eval (Expr.ListComp _ _ _ _) _) _ _ _))
local macro_rules | `(tactic| walk_at "noiter") => `(tactic| fail_if_success (with_reducible show wpAny _ _ (pyIter _) _ _ _))
local macro_rules | `(tactic| walk_at "go") => `(tactic| repeat' ((walk_at "nowhile"); (walk_at "nofor"); (walk_at "nocomp"); (walk_at "noiter"); (walk_at "go1")))
local macro_rules | `(tactic| walk_at "room") => `(tactic| ((try simp only [depth_in1, depth_deeper, depth_caller]); (try dsimp only [ktrTop] at *); omega))
local macro_rules | `(tactic| walk_at "call ref") => `(tactic| (k_here; (with_reducible show wpAny _ _ (call (Value.ref 159) _ _) _ _ _); k_dflt ((refine' use_same (ct_last _ _ _ _ _ ?hl).n ?B ?F ?X ?N ?T ?hk ?hd ?hu ?_); (case hl => walk_at "sz"); (case B => k_asm); (case F => k_asm); (case X => k_asm); (case N => k_asm); (case T => k_asm); (case hk => first | exact rfl | with_reducible assumption); (case hd => walk_at "room"); (case hu => walk_at "un"); rintro v9 h9 k9 ⟨tk9, e9⟩ F9 N9; subst e9; (try dsimp only); (try k_sweep))))
local macro_rules | `(tactic| walk_at "call ref") => `(tactic| (k_here; (with_reducible show wpAny _ _ (call (Value.ref 152) _ _) _ _ _); k_dflt ((refine' use_same (ct_exchange _ _ _ ?hl).n ?B ?F ?X ?N ?T ?hk ?hd ?hu ?_); (case hl => walk_at "sz"); (case B => k_asm); (case F => k_asm); (case X => k_asm); (case N => k_asm); (case T => k_asm); (case hk => first | exact rfl | with_reducible assumption); (case hd => walk_at "room"); (case hu => walk_at "un"); rintro v9 h9 k9 ⟨tk9, e9⟩ F9 N9; subst e9; (try dsimp only); (try k_sweep))))
local macro_rules | `(tactic| walk_at "call ref") => `(tactic| (k_here; (with_reducible show wpAny _ _ (call (Value.ref 145) _ _) _ _ _); k_dflt ((refine' use_same (ct_kind _ _ _ _ ?hl ?ok).n ?B ?F ?X ?N ?T ?hk ?hd ?hu ?_); (case hl => walk_at "sz"); (case ok => walk_at "ok"); (case B => k_asm); (case F => k_asm); (case X => k_asm); (case N => k_asm); (case T => k_asm); (case hk => first | exact rfl | with_reducible assumption); (case hd => walk_at "room"); (case hu => walk_at "un"); rintro v9 h9 k9 ⟨tk9, e9⟩ F9 N9; subst e9; (try dsimp only); (try k_sweep))))
local macro_rules | `(tactic| walk_at "call ref") => `(tactic| (k_here; (with_reducible show wpAny _ _ (call (Value.ref 140) _ _) _ _ _); k_dflt ((refine' use_same (ct_signs _ _ _).n ?B ?F ?X ?N ?T ?hk ?hd ?hu ?_);  (case B => k_asm); (case F => k_asm); (case X => k_asm); (case N => k_asm); (case T => k_asm); (case hk => first | exact rfl | with_reducible assumption); (case hd => walk_at "room"); (case hu => walk_at "un"); rintro v9 h9 k9 ⟨l9, tk9, e9, hl9, ho9⟩ F9 N9; subst e9; (try dsimp only); (try k_sweep))))
local macro_rules | `(tactic| walk_at "call ref") => `(tactic| (k_here; (with_reducible show wpAny _ _ (call (Value.ref 108) _ _) _ _ _); k_dflt ((refine' use_tup (ct_spl _ _ _ _ _ _ _ _ ?hl ?ok ?ha ?hb).n ?B ?F ?X ?N ?T ?hk ?hd ?hu ?_); (case hl => walk_at "sz"); (case ok => walk_at "ok"); (case ha => first | with_reducible assumption | decide); (case hb => first | with_reducible assumption | decide); (case B => k_asm); (case F => k_asm); (case X => k_asm); (case N => k_asm); (case T => k_asm); (case hk => first | exact rfl | with_reducible assumption); (case hd => walk_at "room"); (case hu => walk_at "un"); intro D9 u9 w9 h9 k9 F9 N9; (try dsimp only); (try k_sweep))))
local macro_rules | `(tactic| walk_at "call ref") => `(tactic| (k_here; (with_reducible show wpAny _ _ (call (Value.ref 108) _ _) _ _ _); k_dflt ((refine' use_tup (o := false) (ct_splitext_s _ _ _ _ _ _ _ ?hl).n ?B ?F ?X ?N ?T ?hk ?hd ?hu ?_); (case hl => walk_at "sz"); (case B => k_asm); (case F => k_asm); (case X => k_asm); (case N => k_asm); (case T => k_asm); (case hk => first | exact rfl | with_reducible assumption); (case hd => walk_at "room"); (case hu => walk_at "un"); intro D9 u9 w9 h9 k9 F9 N9; (try dsimp only); (try k_sweep))))
local macro_rules | `(tactic| walk_at "call ref") => `(tactic| (k_here; (with_reducible show wpAny _ _ (call (Value.ref 108) _ _) _ _ _); k_dflt ((refine' use_tup (o := true) (ct_splitext_b _ _ _ _ _ _ _ ?hl ?oct ?ha ?hb).n ?B ?F ?X ?N ?T ?hk ?hd ?hu ?_); (case hl => walk_at "sz"); (case oct => walk_at "oct"); (case ha => first | with_reducible assumption | decide); (case hb => first | with_reducible assumption | decide); (case B => k_asm); (case F => k_asm); (case X => k_asm); (case N => k_asm); (case T => k_asm); (case hk => first | exact rfl | with_reducible assumption); (case hd => walk_at "room"); (case hu => walk_at "un"); intro D9 u9 w9 h9 k9 F9 N9; (try dsimp only); (try k_sweep))))
local macro_rules | `(tactic| walk_at "call ref") => `(tactic| (k_here; (with_reducible show wpAny _ _ (call (Value.ref 101) _ _) _ _ _); k_dflt ((refine' use_same (ct_fspath_s _ _ _).n ?B ?F ?X ?N ?T ?hk ?hd ?hu ?_);  (case B => k_asm); (case F => k_asm); (case X => k_asm); (case N => k_asm); (case T => k_asm); (case hk => first | exact rfl | with_reducible assumption); (case hd => walk_at "room"); (case hu => walk_at "un"); rintro v9 h9 k9 e9 F9 N9; subst e9; (try dsimp only); (try k_sweep))))
local macro_rules | `(tactic| walk_at "call ref") => `(tactic| (k_here; (with_reducible show wpAny _ _ (call (Value.ref 101) _ _) _ _ _); k_dflt ((refine' use_same (ct_fspath_b _ _ _).n ?B ?F ?X ?N ?T ?hk ?hd ?hu ?_);  (case B => k_asm); (case F => k_asm); (case X => k_asm); (case N => k_asm); (case T => k_asm); (case hk => first | exact rfl | with_reducible assumption); (case hd => walk_at "room"); (case hu => walk_at "un"); rintro v9 h9 k9 e9 F9 N9; subst e9; (try dsimp only); (try k_sweep))))
local macro_rules | `(tactic| walk_at "call ref") => `(tactic| (k_here; (with_reducible show wpAny _ _ (call (Value.ref 115) _ _) _ _ _); k_dflt ((refine' use_same (ct_getsep_s _ _ _).n ?B ?F ?X ?N ?T ?hk ?hd ?hu ?_);  (case B => k_asm); (case F => k_asm); (case X => k_asm); (case N => k_asm); (case T => k_asm); (case hk => first | exact rfl | with_reducible assumption); (case hd => walk_at "room"); (case hu => walk_at "un"); rintro v9 h9 k9 ⟨tk9, e9⟩ F9 N9; subst e9; (try dsimp only); (try k_sweep))))
local macro_rules | `(tactic| walk_at "call ref") => `(tactic| (k_here; (with_reducible show wpAny _ _ (call (Value.ref 115) _ _) _ _ _); k_dflt ((refine' use_same (ct_getsep_b _ _ _).n ?B ?F ?X ?N ?T ?hk ?hd ?hu ?_);  (case B => k_asm); (case F => k_asm); (case X => k_asm); (case N => k_asm); (case T => k_asm); (case hk => first | exact rfl | with_reducible assumption); (case hd => walk_at "room"); (case hu => walk_at "un"); rintro v9 h9 k9 ⟨tk9, e9⟩ F9 N9; subst e9; (try dsimp only); (try k_sweep))))
local macro_rules | `(tactic| walk_at "call ref") => `(tactic| (k_here; (with_reducible show wpAny _ _ (call (Value.ref 166) _ _) _ _ _); k_dflt ((refine' use_tup (ct_cut _ _ _ _ _ _ ?hl ?ok ?hc) ?B ?F ?X ?N ?T ?hk ?hd ?hu ?_); (case hl => walk_at "sz"); (case ok => walk_at "ok"); (case hc => first | with_reducible assumption | decide); (case B => k_asm); (case F => k_asm); (case X => k_asm); (case N => k_asm); (case T => k_asm); (case hk => first | exact rfl | with_reducible assumption); (case hd => walk_at "room"); (case hu => walk_at "un"); intro D9 u9 w9 h9 k9 F9 N9; (try dsimp only); (try k_sweep))))
local macro_rules | `(tactic| walk_at "call ref") => `(tactic| (k_here; (with_reducible show wpAny _ _ (call (Value.ref 173) _ _) _ _ _); k_dflt ((refine' use_tup (ct_due _ _ _ _ ?hl ?ok) ?B ?F ?X ?N ?T ?hk ?hd ?hu ?_); (case hl => walk_at "sz"); (case ok => walk_at "ok"); (case B => k_asm); (case F => k_asm); (case X => k_asm); (case N => k_asm); (case T => k_asm); (case hk => first | exact rfl | with_reducible assumption); (case hd => walk_at "room"); (case hu => walk_at "un"); intro D9 u9 w9 h9 k9 F9 N9; (try dsimp only); (try k_sweep))))
local macro_rules | `(tactic| walk_at "call ref") => `(tactic| (k_here; (with_reducible show wpAny _ _ (call (Value.ref 122) _ _) _ _ _); k_dflt ((refine' use_tup (ct_split _ _ _ _ ?hl ?ok) ?B ?F ?X ?N ?T ?hk ?hd ?hu ?_); (case hl => walk_at "sz"); (case ok => walk_at "ok"); (case B => k_asm); (case F => k_asm); (case X => k_asm); (case N => k_asm); (case T => k_asm); (case hk => first | exact rfl | with_reducible assumption); (case hd => walk_at "room"); (case hu => walk_at "un"); intro D9 u9 w9 h9 k9 F9 N9; (try dsimp only); (try k_sweep))))
local macro_rules | `(tactic| walk_at "call ref") => `(tactic| (k_here; (with_reducible show wpAny _ _ (call (Value.ref 129) _ _) _ _ _); k_dflt ((refine' use_tup (ct_spt _ _ _ _ ?hl ?ok) ?B ?F ?X ?N ?T ?hk ?hd ?hu ?_); (case hl => walk_at "sz"); (case ok => walk_at "ok"); (case B => k_asm); (case F => k_asm); (case X => k_asm); (case N => k_asm); (case T => k_asm); (case hk => first | exact rfl | with_reducible assumption); (case hd => walk_at "room"); (case hu => walk_at "un"); intro D9 u9 w9 h9 k9 F9 N9; (try dsimp only); (try k_sweep))))
local macro_rules | `(tactic| walk_at "compareOp NotEq ref ref") => `(tactic| (k_here; k_dflt ((refine' k_ne_same2 ?n ?x ?y ?a ?b ?e1 ?e2 ?u ?_); (case n => k_asm); (case x => k_mem); (case y => k_mem); (case a => walk_at "ok"); (case b => walk_at "ok"); (case e1 => with_reducible assumption); (case e2 => with_reducible assumption); (case u => walk_at "un"))))
local macro_rules | `(tactic| walk_at "ite") => `(tactic| first | with_reducible refine ite_ff ?_ | with_reducible refine ite_tt ?_)
local macro_rules | `(tactic| walk_at "mem") => `(tactic| first | with_reducible assumption | exact List.Mem.head _ | (refine' List.mem_cons_of_mem _ ?_; walk_at "mem"))
local macro_rules | `(tactic| walk_at "sz") => `(tactic| ((with_reducible refine sz_cuts ?_); walk_at "sz"))
local macro_rules | `(tactic| walk_at "same") => `(tactic| first | with_reducible assumption | (with_reducible exact Same.rf) | exact b_h1 (by with_reducible assumption) (by with_reducible assumption) | exact b_h2 (by with_reducible assumption) (by with_reducible assumption))
local macro_rules | `(tactic| walk_at "ix") => `(tactic| first | exact b_k (by with_reducible assumption) (by with_reducible assumption) | (have h9 := c_ix (by with_reducible assumption) (by with_reducible assumption) (by with_reducible assumption); omega))
local macro_rules | `(tactic| walk_at "subscriptTail") => `(tactic| (k_here; (with_reducible show wpAny _ _ (subscriptTail _ _ (Value.ref _) (Value.int 0 _)) _ _ _); k_dflt ((refine' o_first ?n ?m ?i ?x ?_); (case n => k_asm); (case m => walk_at "mem"); (case i => with_reducible assumption); (case x => with_reducible assumption); intro t')))
local macro_rules | `(tactic| walk_at "subscriptTail") => `(tactic| (k_here; (with_reducible show wpAny _ _ (subscriptTail _ _ (Value.ref _) (Value.int 0 _)) _ _ _); k_dflt ((refine' t_item0 ?n ?m ?_); (case n => k_asm); (case m => walk_at "mem"))))
local macro_rules | `(tactic| walk_at "subscriptTail") => `(tactic| (k_here; (with_reducible show wpAny _ _ (subscriptTail _ _ (Value.ref _) (Value.int 1 _)) _ _ _); k_dflt ((refine' t_item1 ?n ?m ?_); (case n => k_asm); (case m => walk_at "mem"))))
local macro_rules | `(tactic| walk_at "subscriptTail Name Constant ref int") => `(tactic| walk_at "subscriptTail")
local macro_rules | `(tactic| walk_at "compareOp NotEq ref ref") => `(tactic| (k_here; k_dflt ((refine' o_ne_lists ?n ?x ?y ?a ?b ?e ?u ?_); (case n => k_asm); (case x => walk_at "mem"); (case y => walk_at "mem"); (case a => with_reducible assumption); (case b => with_reducible assumption); (case e => exact SameL.eq (by with_reducible assumption)); (case u => walk_at "un"))))
local macro_rules | `(tactic| walk_at "compareOp NotEq ref ref") => `(tactic| (k_here; k_dflt ((refine' k_ne_same2 ?n ?x ?y ?a ?b ?e1 ?e2 ?u ?_); (case n => k_asm); (case x => walk_at "mem"); (case y => walk_at "mem"); (case a => walk_at "ok"); (case b => walk_at "ok"); (case e1 => walk_at "same"); (case e2 => walk_at "same"); (case u => walk_at "un"))))
local macro_rules | `(tactic| walk_at "binaryOp Add") => `(tactic| (k_here; (with_reducible show wpAny _ _ (binaryOp _ (kv _ _ _) (kv _ _ _)) _ _ _); k_dflt ((refine' k_add ?hz ?_); (case hz => walk_at "sz"); intro t' k')))
local macro_rules | `(tactic| walk_at "binaryOp Add ref ref") => `(tactic| (k_here; k_dflt ((refine' o_cons ?F ?N ?m ?m2 ?j ?z ?_); (case F => k_asm); (case N => k_asm); (case m => walk_at "mem"); (case m2 => walk_at "mem"); (case j => with_reducible assumption); (case z => walk_at "sz"); intro vs9 D9 h9 hvs9 F9 N9; (try dsimp only); (try k_sweep))))
local macro_rules | `(tactic| walk_at "call builtin:str.split") => `(tactic| (k_here; k_dflt ((refine' o_split ?F ?N ?z ?_); (case F => k_asm); (case N => k_asm); (case z => walk_at "sz"); intro vs9 D9 h9 k9 hvs9 F9 N9; (try dsimp only); (try k_sweep))))
local macro_rules | `(tactic| walk_at "subscriptTail Name Slice ref ref") => `(tactic| (k_here; (with_reducible show wpAny _ _ (subscriptTail _ (Expr.Slice _ _ none _) (Value.ref _) (Value.ref _)) _ _ _); k_dflt ((with_reducible rename Fr _ _ _ _ => F'); (with_reducible rename News _ _ _ _ => N'); (refine' o_rest (s := ⟨_, _, _, _, _⟩) F' N' ?m ?i ?z ?e ?_); (case m => walk_at "mem"); (case i => with_reducible assumption); (case z => walk_at "sz"); (case e => exact cuts_pos _ _); intro vs9 D9 h9 hvs9 F9 N9; (try dsimp only); (try k_sweep))))
local macro_rules | `(tactic| walk_at "nopieces") => `(tactic| fail_if_success (with_reducible show wpAny _ _ (execs (Stmt.Assign [Expr.Name (Str.ofString "pieces") _] _ _ :: _) _) _ _ _))
local macro_rules | `(tactic| walk_at "noswapped") => `(tactic| fail_if_success (with_reducible show wpAny _ _ (execs (Stmt.Assign [Expr.Name (Str.ofString "swapped") _] _ _ :: _) _) _ _ _))
local macro_rules | `(tactic| walk_at "goB") => `(tactic| repeat' ((walk_at "nowhile"); (walk_at "nofor"); (walk_at "nocomp"); (walk_at "noiter"); (walk_at "nopieces"); (walk_at "go1")))
local macro_rules | `(tactic| walk_at "goC") => `(tactic| repeat' ((walk_at "nowhile"); (walk_at "nofor"); (walk_at "nocomp"); (walk_at "noiter"); (walk_at "noswapped"); (walk_at "go1")))
theorem seg_b (w : World) (o : Bool) (l : List Nat) (hl : l.length ≤ 100) (ho : OK o l) (i : Int) (hi0 : 0 ≤ i) (hi1 : i ≤ 200) (hc : i.toNat ∉ l) (v1 v2 : Value) (t1 t2 : Tok) (nw : List (Addr × Obj)) :
    Seg w 5 [(Str.ofString "script", v1), (Str.ofString "numbers", v2), (Str.ofString "octets", .bool o), (Str.ofString "text", .str (S l) t1), (Str.ofString "code", .int i t2)] nw := by
  unfold Seg
  k_fill
  intro p loose mean mg mb dp un gd a ccd outer A₀ base h₀ L s Q E B F X N T hd hu hpo hret
  have hc8 : i.toNat < 256 := by omega
  have g1 := lastIx_ge 47 l
  have g2 := lastIx_ge 46 l
  have e1 := b_told1 hc
  have e2 := b_told2 hc
  have e3 := b_d1 hc
  have e4 := b_d2 hc
  have z1 : (spl i.toNat 47 (l.drop (lastIx 46 l + 1).toNat)).1.length ≤ 100 := sz_spl1 (sz_drop hl)
  with_unfolding_all refine wpAny_execs_cons ?_
  walk_at "goB"
  · rename Fr _ _ _ _ => F9
    rename News _ _ _ _ => N9
    with_unfolding_all exact seg_c w o l hl ho i hi0 hi1 hc _ _ _ _ _ _ _ _ _ _ _ _ p loose mean mg mb dp un gd a ccd outer A₀ base h₀ L _ Q E B F9 X N9 T hd hu hpo hret
  · rename Fr _ _ _ _ => F9
    rename News _ _ _ _ => N9
    with_unfolding_all exact seg_c w o l hl ho i hi0 hi1 hc _ _ _ _ _ _ _ _ _ _ _ _ p loose mean mg mb dp un gd a ccd outer A₀ base h₀ L _ Q E B F9 X N9 T hd hu hpo hret
end Mine
namespace Mine
open PySem.Builtin
local macro_rules | `(tactic| walk_at "mput") => `(tactic| first | exact Put.nil | with_reducible exact Put.here | (refine' Put.there ?pa ?pb; (case pa => decide); (case pb => walk_at "mput")))
local macro_rules | `(tactic| walk_at "sz") => `(tactic| first | with_reducible assumption | omega | ((with_reducible refine sz_take ?_); walk_at "sz") | ((with_reducible refine sz_drop ?_); walk_at "sz") | ((with_reducible refine sz_lstr ?_); walk_at "sz") | ((with_reducible refine sz_rstr ?_); walk_at "sz") | ((with_reducible refine sz_spl1 ?_); walk_at "sz") | ((with_reducible refine sz_spl2 ?_); walk_at "sz") | ((with_reducible refine sz_map ?_); walk_at "sz") | (simp only [List.length_take, List.length_drop, List.length_append, List.length_map, List.length_cons, List.length_nil, List.length_replicate]; omega))
local macro_rules | `(tactic| walk_at "ix") => `(tactic| first | omega | (simp only [List.length_take, List.length_drop]; omega) | (simp only [decide_eq_true_eq, decide_eq_false_iff_not, Bool.not_eq_true] at *; omega) | ((try simp only [Int.fmod_eq_emod_of_nonneg _ (by decide : (0 : Int) ≤ 256), Int.fmod_eq_emod_of_nonneg _ (by decide : (0 : Int) ≤ 7), Int.fmod_eq_emod_of_nonneg _ (by decide : (0 : Int) ≤ 3), Int.fdiv_eq_ediv_of_nonneg _ (by decide : (0 : Int) ≤ 7), Int.fdiv_eq_ediv_of_nonneg _ (by decide : (0 : Int) ≤ 3)] at *); omega))
local macro_rules | `(tactic| walk_at "storeName") => `(tactic| (k_here; (with_reducible show wpAny _ _ (storeName (envOf _ _ _ _ _) _ _) _ _ _); (first | (with_reducible refine gen_int ?_; intro tk') | (with_reducible refine gen_str ?_; intro tk') | (with_reducible refine gen_bytes ?_; intro tk') | (with_reducible refine gen_kv ?_; intro tk') | skip); k_dflt (refine' st_any ?F ?N ?P ?_; (case F => with_reducible assumption); (case N => with_reducible assumption); (case P => walk_at "mput")); intro h' k' F' N'; (try dsimp only); (try k_sweep)))
local macro_rules | `(tactic| walk_at "eval Constant str") => `(tactic| (k_here; (first | refine o_const (l := [47]) (by decide) ?_ | refine o_const (l := [46]) (by decide) ?_ | refine o_const (l := []) (by decide) ?_); intro t' k'))
local macro_rules | `(tactic| walk_at "eval Constant bytes") => `(tactic| (k_here; (first | refine o_bconst (l := [47]) (by decide) ?_ | refine o_bconst (l := [46]) (by decide) ?_); intro t' k'))
local macro_rules | `(tactic| walk_at "call builtin:len") => `(tactic| (k_here; (first | with_reducible refine o_len ?hz ?_ | with_reducible refine o_blen ?hz ?_ | with_reducible refine k_len ?hz ?_); (case hz => walk_at "sz"); intro t' k'))
local macro_rules | `(tactic| walk_at "compareOp Eq") => `(tactic| (k_here; with_reducible refine k_eq ?a ?b ?_; (case a => walk_at "ok"); (case b => walk_at "ok")))
local macro_rules | `(tactic| walk_at "compareOp Eq str str") => `(tactic| (k_here; with_reducible refine o_eq ?_))
local macro_rules | `(tactic| walk_at "compareOp NotEq str str") => `(tactic| (k_here; with_reducible refine o_ne ?_))
local macro_rules | `(tactic| walk_at "compareOp Eq bytes bytes") => `(tactic| (k_here; with_reducible refine o_beq ?a ?b ?_; (case a => walk_at "oct"); (case b => walk_at "oct")))
local macro_rules | `(tactic| walk_at "compareOp NotEq bytes bytes") => `(tactic| (k_here; with_reducible refine o_bne ?a ?b ?_; (case a => walk_at "oct"); (case b => walk_at "oct")))
local macro_rules | `(tactic| walk_at "oct") => `(tactic| first | with_reducible assumption | ((with_reducible refine Oct.take ?_ _); walk_at "oct") | ((with_reducible refine Oct.drop ?_ _); walk_at "oct") | ((with_reducible refine Oct.rstr ?_ _); walk_at "oct") | ((with_reducible refine Oct.lstr ?_ _); walk_at "oct") | (with_reducible exact Oct.nil) | ((with_reducible refine Oct.rep ?_ _); first | with_reducible assumption | decide) | ((with_reducible refine Oct.one ?_); first | with_reducible assumption | decide))
local macro_rules | `(tactic| walk_at "ok") => `(tactic| first | with_reducible assumption | (with_reducible exact OK.nil) | ((with_reducible refine OK.one ?_); first | with_reducible assumption | decide) | ((with_reducible refine OK.take ?_ _); walk_at "ok") | ((with_reducible refine OK.drop ?_ _); walk_at "ok") | ((with_reducible refine OK.lstr ?_ _); walk_at "ok") | ((with_reducible refine OK.rstr ?_ _); walk_at "ok") | ((with_reducible refine OK.exch ?_); walk_at "ok") | ((with_reducible refine OK.splitH ?_); walk_at "ok") | ((with_reducible refine OK.spl1 ?_ _ _); walk_at "ok") | ((with_reducible refine OK.spl2 ?_ _ _); walk_at "ok") | ((with_reducible refine OK.rep ?_ _); first | with_reducible assumption | decide) | ((with_reducible refine OK.append ?_ ?_) <;> walk_at "ok"))
local macro_rules | `(tactic| walk_at "truthy") => `(tactic| (k_here; (first | with_reducible refine o_truthy ?hz ?_ | with_reducible refine o_btruthy ?hz ?_); (case hz => walk_at "sz"); intro k'))
local macro_rules | `(tactic| walk_at "binaryOp Add") => `(tactic| (k_here; with_reducible refine k_add ?hz ?_; (case hz => walk_at "sz"); intro t' k'))
local macro_rules | `(tactic| walk_at "binaryOp Add str str") => `(tactic| (k_here; with_reducible refine o_add ?hz ?_; (case hz => walk_at "sz"); intro t' k'))
local macro_rules | `(tactic| walk_at "inplaceOp Add str str") => `(tactic| (k_here; with_reducible refine o_iadd ?hz ?_; (case hz => walk_at "sz"); intro t' k'))
local macro_rules | `(tactic| walk_at "compareOp In str str") => `(tactic| (k_here; with_reducible refine o_in ?_))
local macro_rules | `(tactic| walk_at "call builtin:str.rfind") => `(tactic| (k_here; with_reducible refine o_rfind ?_; intro t' k'))
local macro_rules | `(tactic| walk_at "call builtin:bytes.rfind") => `(tactic| (k_here; with_reducible refine b_rfind ?a ?b ?_; (case a => walk_at "oct"); (case b => first | with_reducible assumption | decide); intro t' k'))
local macro_rules | `(tactic| walk_at "call builtin:bytes.rstrip") => `(tactic| (k_here; with_reducible refine b_rstrip ?a ?b ?c ?_; (case a => walk_at "oct"); (case b => first | with_reducible assumption | decide); (case c => walk_at "ix"); intro t' k'))
local macro_rules | `(tactic| walk_at "getMethod bytes") => `(tactic| (k_here; first | with_reducible refine b_method_rfind ?_ | with_reducible refine b_method_rstrip ?_))
local macro_rules | `(tactic| walk_at "call builtin:str.strip") => `(tactic| (k_here; with_reducible refine o_strip ?hz ?_; (case hz => walk_at "sz"); intro t' k'))
local macro_rules | `(tactic| walk_at "call builtin:str.lstrip") => `(tactic| (k_here; with_reducible refine o_lstrip ?hz ?_; (case hz => walk_at "sz"); intro t' k'))
local macro_rules | `(tactic| walk_at "call builtin:str.rstrip") => `(tactic| (k_here; with_reducible refine o_rstrip ?hz ?_; (case hz => walk_at "sz"); intro t' k'))
local macro_rules | `(tactic| walk_at "call builtin:ord") => `(tactic| (k_here; with_reducible refine o_ord ?_; intro t' k'))
local macro_rules | `(tactic| walk_at "call builtin:chr") => `(tactic| (k_here; with_reducible refine o_chr ?a ?b ?_; (case a => walk_at "ix"); (case b => walk_at "ix"); intro t' k'))
local macro_rules | `(tactic| walk_at "binaryOp Mult str int") => `(tactic| (k_here; with_reducible refine o_mul ?a ?b ?_; (case a => walk_at "ix"); (case b => walk_at "ix"); intro t' k'))
local macro_rules | `(tactic| walk_at "binaryOp Mult bytes int") => `(tactic| (k_here; with_reducible refine b_mul ?a ?b ?_; (case a => walk_at "ix"); (case b => walk_at "ix"); intro t' k'))
local macro_rules | `(tactic| walk_at "subscriptTail Name Name str int") => `(tactic| (k_here; (with_reducible show wpAny _ _ (subscriptTail _ _ (Value.str (S _) _) (Value.int _ _)) _ _ _); refine o_item ?a ?b ?c ?_; (case a => walk_at "ix"); (case b => walk_at "ix"); (case c => walk_at "sz"); intro t' k'))
local macro_rules | `(tactic| walk_at "subscriptTail") => `(tactic| (k_here; (with_reducible show wpAny _ _ (subscriptTail _ (Expr.Slice _ _ none _) (Value.str (S _) _) (Value.ref _)) _ _ _); (with_reducible rename Fr _ _ _ _ => F'); (with_reducible rename News _ _ _ _ => N'); (first
  | (refine o_to (s := ⟨_, _, _, _, _⟩) F' N' ?hz ?a ?_; (case hz => walk_at "sz"); (case a => walk_at "ix"))
  | (refine o_from (s := ⟨_, _, _, _, _⟩) F' N' ?hz ?a ?_; (case hz => walk_at "sz"); (case a => walk_at "ix"))
  | (refine o_mid (s := ⟨_, _, _, _, _⟩) F' N' ?hz ?a ?b ?c ?_; (case hz => walk_at "sz"); (case a => walk_at "ix"); (case b => walk_at "ix"); (case c => walk_at "ix"))); intro h' t' k' F' N'; (try k_sweep)))
local macro_rules | `(tactic| walk_at "subscriptTail Name Slice str ref") => `(tactic| walk_at "subscriptTail")
local macro_rules | `(tactic| walk_at "subscriptTail") => `(tactic| (k_here; (with_reducible show wpAny _ _ (subscriptTail _ (Expr.Slice _ _ none _) (Value.bytes (Bt _) _) (Value.ref _)) _ _ _); (with_reducible rename Fr _ _ _ _ => F'); (with_reducible rename News _ _ _ _ => N'); (first
  | (refine b_to (s := ⟨_, _, _, _, _⟩) F' N' ?hz ?a ?_; (case hz => walk_at "sz"); (case a => walk_at "ix"))
  | (refine b_from (s := ⟨_, _, _, _, _⟩) F' N' ?hz ?a ?_; (case hz => walk_at "sz"); (case a => walk_at "ix"))
  | (refine b_mid (s := ⟨_, _, _, _, _⟩) F' N' ?hz ?a ?b ?c ?_; (case hz => walk_at "sz"); (case a => walk_at "ix"); (case b => walk_at "ix"); (case c => walk_at "ix"))); intro h' t' k' F' N'; (try k_sweep)))
local macro_rules | `(tactic| walk_at "subscriptTail") => `(tactic| (k_here; (with_reducible show wpAny _ _ (subscriptTail _ (Expr.Slice _ _ none _) (kv _ _ _) (Value.ref _)) _ _ _); (with_reducible rename Fr _ _ _ _ => F'); (with_reducible rename News _ _ _ _ => N'); (refine k_from (s := ⟨_, _, _, _, _⟩) F' N' ?hz ?a ?_; (case hz => walk_at "sz"); (case a => walk_at "ix")); intro h' t' k' F' N'; (try k_sweep)))
local macro_rules | `(tactic| walk_at "compareOp NotEq ref ref") => `(tactic| (k_here; with_reducible refine k_ne_tup ?n ?x ?y ?a ?b ?c ?d ?u ?_; (case n => k_asm); (case x => k_mem); (case y => k_mem); (case a => walk_at "ok"); (case b => walk_at "ok"); (case c => walk_at "ok"); (case d => walk_at "ok"); (case u => walk_at "un")))
local macro_rules | `(tactic| walk_at "un") => `(tactic| (have hcL9 := cLine_is; (try simp only [units_in1, units_deeper, Around.mark_units, units_caller]); (try dsimp only [ktrTop] at *); omega))
local macro_rules | `(tactic| walk_at "go1") => `(tactic| first | (k_unfold; (try dsimp only)) | walk1 | (dsimp only; walk1) | (leave1; walk_say "STEP leave1"; try dsimp only))
local macro_rules | `(tactic| walk_at "nowhile") => `(tactic| fail_if_success (with_reducible show wpAny _ _ (exec (Stmt.While _ _ _ _) _) _ _ _))
local macro_rules | `(tactic| walk_at "nofor") => `(tactic| fail_if_success (with_reducible show wpAny _ _ (exec (Stmt.For _ _ _ _ _) _) _ _ _))
local macro_rules | `(tactic| walk_at "nocomp") => `(tactic| fail_if_success (with_reducible show wpAny _ _ (eval (Expr.ListComp _ _ _ _) _) _ _ _))
local macro_rules | `(tactic| walk_at "noiter") => `(tactic| fail_if_success (with_reducible show wpAny _ _ (pyIter _) _ _ _))
local macro_rules | `(tactic| walk_at "go") => `(tactic| repeat' ((walk_at "nowhile"); (walk_at "nofor"); (walk_at "nocomp"); (walk_at "noiter"); (walk_at "go1")))
local macro_rules | `(tactic| walk_at "room") => `(tactic| ((try simp only [depth_in1, depth_deeper, depth_caller]); (try dsimp only [ktrTop] at *); omega))
local macro_rules | `(tactic| walk_at "call ref") => `(tactic| (k_here; (with_reducible show wpAny _ _ (call (Value.ref 159) _ _) _ _ _); k_dflt ((refine' use_same (ct_last _ _ _ _ _ ?hl).n ?B ?F ?X ?N ?T ?hk ?hd ?hu ?_); (case hl => walk_at "sz"); (case B => k_asm); (case F => k_asm); (case X => k_asm); (case N => k_asm); (case T => k_asm); (case hk => first | exact rfl | with_reducible assumption); (case hd => walk_at "room"); (case hu => walk_at "un"); rintro v9 h9 k9 ⟨tk9, e9⟩ F9 N9; subst e9; (try dsimp only); (try k_sweep))))
local macro_rules | `(tactic| walk_at "call ref") => `(tactic| (k_here; (with_reducible show wpAny _ _ (call (Value.ref 152) _ _) _ _ _); k_dflt ((refine' use_same (ct_exchange _ _ _ ?hl).n ?B ?F ?X ?N ?T ?hk ?hd ?hu ?_); (case hl => walk_at "sz"); (case B => k_asm); (case F => k_asm); (case X => k_asm); (case N => k_asm); (case T => k_asm); (case hk => first | exact rfl | with_reducible assumption); (case hd => walk_at "room"); (case hu => walk_at "un"); rintro v9 h9 k9 ⟨tk9, e9⟩ F9 N9; subst e9; (try dsimp only); (try k_sweep))))
local macro_rules | `(tactic| walk_at "call ref") => `(tactic| (k_here; (with_reducible show wpAny _ _ (call (Value.ref 145) _ _) _ _ _); k_dflt ((refine' use_same (ct_kind _ _ _ _ ?hl ?ok).n ?B ?F ?X ?N ?T ?hk ?hd ?hu ?_); (case hl => walk_at "sz"); (case ok => walk_at "ok"); (case B => k_asm); (case F => k_asm); (case X => k_asm); (case N => k_asm); (case T => k_asm); (case hk => first | exact rfl | with_reducible assumption); (case hd => walk_at "room"); (case hu => walk_at "un"); rintro v9 h9 k9 ⟨tk9, e9⟩ F9 N9; subst e9; (try dsimp only); (try k_sweep))))
local macro_rules | `(tactic| walk_at "call ref") => `(tactic| (k_here; (with_reducible show wpAny _ _ (call (Value.ref 140) _ _) _ _ _); k_dflt ((refine' use_same (ct_signs _ _ _).n ?B ?F ?X ?N ?T ?hk ?hd ?hu ?_);  (case B => k_asm); (case F => k_asm); (case X => k_asm); (case N => k_asm); (case T => k_asm); (case hk => first | exact rfl | with_reducible assumption); (case hd => walk_at "room"); (case hu => walk_at "un"); rintro v9 h9 k9 ⟨l9, tk9, e9, hl9, ho9⟩ F9 N9; subst e9; (try dsimp only); (try k_sweep))))
local macro_rules | `(tactic| walk_at "call ref") => `(tactic| (k_here; (with_reducible show wpAny _ _ (call (Value.ref 108) _ _) _ _ _); k_dflt ((refine' use_tup (ct_spl _ _ _ _ _ _ _ _ ?hl ?ok ?ha ?hb).n ?B ?F ?X ?N ?T ?hk ?hd ?hu ?_); (case hl => walk_at "sz"); (case ok => walk_at "ok"); (case ha => first | with_reducible assumption | decide); (case hb => first | with_reducible assumption | decide); (case B => k_asm); (case F => k_asm); (case X => k_asm); (case N => k_asm); (case T => k_asm); (case hk => first | exact rfl | with_reducible assumption); (case hd => walk_at "room"); (case hu => walk_at "un"); intro D9 u9 w9 h9 k9 F9 N9; (try dsimp only); (try k_sweep))))
local macro_rules | `(tactic| walk_at "call ref") => `(tactic| (k_here; (with_reducible show wpAny _ _ (call (Value.ref 108) _ _) _ _ _); k_dflt ((refine' use_tup (o := false) (ct_splitext_s _ _ _ _ _ _ _ ?hl).n ?B ?F ?X ?N ?T ?hk ?hd ?hu ?_); (case hl => walk_at "sz"); (case B => k_asm); (case F => k_asm); (case X => k_asm); (case N => k_asm); (case T => k_asm); (case hk => first | exact rfl | with_reducible assumption); (case hd => walk_at "room"); (case hu => walk_at "un"); intro D9 u9 w9 h9 k9 F9 N9; (try dsimp only); (try k_sweep))))
local macro_rules | `(tactic| walk_at "call ref") => `(tactic| (k_here; (with_reducible show wpAny _ _ (call (Value.ref 108) _ _) _ _ _); k_dflt ((refine' use_tup (o := true) (ct_splitext_b _ _ _ _ _ _ _ ?hl ?oct ?ha ?hb).n ?B ?F ?X ?N ?T ?hk ?hd ?hu ?_); (case hl => walk_at "sz"); (case oct => walk_at "oct"); (case ha => first | with_reducible assumption | decide); (case hb => first | with_reducible assumption | decide); (case B => k_asm); (case F => k_asm); (case X => k_asm); (case N => k_asm); (case T => k_asm); (case hk => first | exact rfl | with_reducible assumption); (case hd => walk_at "room"); (case hu => walk_at "un"); intro D9 u9 w9 h9 k9 F9 N9; (try dsimp only); (try k_sweep))))
local macro_rules | `(tactic| walk_at "call ref") => `(tactic| (k_here; (with_reducible show wpAny _ _ (call (Value.ref 101) _ _) _ _ _); k_dflt ((refine' use_same (ct_fspath_s _ _ _).n ?B ?F ?X ?N ?T ?hk ?hd ?hu ?_);  (case B => k_asm); (case F => k_asm); (case X => k_asm); (case N => k_asm); (case T => k_asm); (case hk => first | exact rfl | with_reducible assumption); (case hd => walk_at "room"); (case hu => walk_at "un"); rintro v9 h9 k9 e9 F9 N9; subst e9; (try dsimp only); (try k_sweep))))
local macro_rules | `(tactic| walk_at "call ref") => `(tactic| (k_here; (with_reducible show wpAny _ _ (call (Value.ref 101) _ _) _ _ _); k_dflt ((refine' use_same (ct_fspath_b _ _ _).n ?B ?F ?X ?N ?T ?hk ?hd ?hu ?_);  (case B => k_asm); (case F => k_asm); (case X => k_asm); (case N => k_asm); (case T => k_asm); (case hk => first | exact rfl | with_reducible assumption); (case hd => walk_at "room"); (case hu => walk_at "un"); rintro v9 h9 k9 e9 F9 N9; subst e9; (try dsimp only); (try k_sweep))))
local macro_rules | `(tactic| walk_at "call ref") => `(tactic| (k_here; (with_reducible show wpAny _ _ (call (Value.ref 115) _ _) _ _ _); k_dflt ((refine' use_same (ct_getsep_s _ _ _).n ?B ?F ?X ?N ?T ?hk ?hd ?hu ?_);  (case B => k_asm); (case F => k_asm); (case X => k_asm); (case N => k_asm); (case T => k_asm); (case hk => first | exact rfl | with_reducible assumption); (case hd => walk_at "room"); (case hu => walk_at "un"); rintro v9 h9 k9 ⟨tk9, e9⟩ F9 N9; subst e9; (try dsimp only); (try k_sweep))))
local macro_rules | `(tactic| walk_at "call ref") => `(tactic| (k_here; (with_reducible show wpAny _ _ (call (Value.ref 115) _ _) _ _ _); k_dflt ((refine' use_same (ct_getsep_b _ _ _).n ?B ?F ?X ?N ?T ?hk ?hd ?hu ?_);  (case B => k_asm); (case F => k_asm); (case X => k_asm); (case N => k_asm); (case T => k_asm); (case hk => first | exact rfl | with_reducible assumption); (case hd => walk_at "room"); (case hu => walk_at "un"); rintro v9 h9 k9 ⟨tk9, e9⟩ F9 N9; subst e9; (try dsimp only); (try k_sweep))))
local macro_rules | `(tactic| walk_at "call ref") => `(tactic| (k_here; (with_reducible show wpAny _ _ (call (Value.ref 166) _ _) _ _ _); k_dflt ((refine' use_tup (ct_cut _ _ _ _ _ _ ?hl ?ok ?hc) ?B ?F ?X ?N ?T ?hk ?hd ?hu ?_); (case hl => walk_at "sz"); (case ok => walk_at "ok"); (case hc => first | with_reducible assumption | decide); (case B => k_asm); (case F => k_asm); (case X => k_asm); (case N => k_asm); (case T => k_asm); (case hk => first | exact rfl | with_reducible assumption); (case hd => walk_at "room"); (case hu => walk_at "un"); intro D9 u9 w9 h9 k9 F9 N9; (try dsimp only); (try k_sweep))))
local macro_rules | `(tactic| walk_at "call ref") => `(tactic| (k_here; (with_reducible show wpAny _ _ (call (Value.ref 173) _ _) _ _ _); k_dflt ((refine' use_tup (ct_due _ _ _ _ ?hl ?ok) ?B ?F ?X ?N ?T ?hk ?hd ?hu ?_); (case hl => walk_at "sz"); (case ok => walk_at "ok"); (case B => k_asm); (case F => k_asm); (case X => k_asm); (case N => k_asm); (case T => k_asm); (case hk => first | exact rfl | with_reducible assumption); (case hd => walk_at "room"); (case hu => walk_at "un"); intro D9 u9 w9 h9 k9 F9 N9; (try dsimp only); (try k_sweep))))
local macro_rules | `(tactic| walk_at "call ref") => `(tactic| (k_here; (with_reducible show wpAny _ _ (call (Value.ref 122) _ _) _ _ _); k_dflt ((refine' use_tup (ct_split _ _ _ _ ?hl ?ok) ?B ?F ?X ?N ?T ?hk ?hd ?hu ?_); (case hl => walk_at "sz"); (case ok => walk_at "ok"); (case B => k_asm); (case F => k_asm); (case X => k_asm); (case N => k_asm); (case T => k_asm); (case hk => first | exact rfl | with_reducible assumption); (case hd => walk_at "room"); (case hu => walk_at "un"); intro D9 u9 w9 h9 k9 F9 N9; (try dsimp only); (try k_sweep))))
local macro_rules | `(tactic| walk_at "call ref") => `(tactic| (k_here; (with_reducible show wpAny _ _ (call (Value.ref 129) _ _) _ _ _); k_dflt ((refine' use_tup (ct_spt _ _ _ _ ?hl ?ok) ?B ?F ?X ?N ?T ?hk ?hd ?hu ?_); (case hl => walk_at "sz"); (case ok => walk_at "ok"); (case B => k_asm); (case F => k_asm); (case X => k_asm); (case N => k_asm); (case T => k_asm); (case hk => first | exact rfl | with_reducible assumption); (case hd => walk_at "room"); (case hu => walk_at "un"); intro D9 u9 w9 h9 k9 F9 N9; (try dsimp only); (try k_sweep))))
local macro_rules | `(tactic| walk_at "compareOp NotEq ref ref") => `(tactic| (k_here; k_dflt ((refine' k_ne_same2 ?n ?x ?y ?a ?b ?e1 ?e2 ?u ?_); (case n => k_asm); (case x => k_mem); (case y => k_mem); (case a => walk_at "ok"); (case b => walk_at "ok"); (case e1 => with_reducible assumption); (case e2 => with_reducible assumption); (case u => walk_at "un"))))
local macro_rules | `(tactic| walk_at "ite") => `(tactic| first | with_reducible refine ite_ff ?_ | with_reducible refine ite_tt ?_)
local macro_rules | `(tactic| walk_at "mem") => `(tactic| first | with_reducible assumption | exact List.Mem.head _ | (refine' List.mem_cons_of_mem _ ?_; walk_at "mem"))
local macro_rules | `(tactic| walk_at "sz") => `(tactic| ((with_reducible refine sz_cuts ?_); walk_at "sz"))
local macro_rules | `(tactic| walk_at "same") => `(tactic| first | with_reducible assumption | (with_reducible exact Same.rf) | exact b_h1 (by with_reducible assumption) (by with_reducible assumption) | exact b_h2 (by with_reducible assumption) (by with_reducible assumption))
local macro_rules | `(tactic| walk_at "ix") => `(tactic| first | exact b_k (by with_reducible assumption) (by with_reducible assumption) | (have h9 := c_ix (by with_reducible assumption) (by with_reducible assumption) (by with_reducible assumption); omega))
local macro_rules | `(tactic| walk_at "subscriptTail") => `(tactic| (k_here; (with_reducible show wpAny _ _ (subscriptTail _ _ (Value.ref _) (Value.int 0 _)) _ _ _); k_dflt ((refine' o_first ?n ?m ?i ?x ?_); (case n => k_asm); (case m => walk_at "mem"); (case i => with_reducible assumption); (case x => with_reducible assumption); intro t')))
local macro_rules | `(tactic| walk_at "subscriptTail") => `(tactic| (k_here; (with_reducible show wpAny _ _ (subscriptTail _ _ (Value.ref _) (Value.int 0 _)) _ _ _); k_dflt ((refine' t_item0 ?n ?m ?_); (case n => k_asm); (case m => walk_at "mem"))))
local macro_rules | `(tactic| walk_at "subscriptTail") => `(tactic| (k_here; (with_reducible show wpAny _ _ (subscriptTail _ _ (Value.ref _) (Value.int 1 _)) _ _ _); k_dflt ((refine' t_item1 ?n ?m ?_); (case n => k_asm); (case m => walk_at "mem"))))
local macro_rules | `(tactic| walk_at "subscriptTail Name Constant ref int") => `(tactic| walk_at "subscriptTail")
local macro_rules | `(tactic| walk_at "compareOp NotEq ref ref") => `(tactic| (k_here; k_dflt ((refine' o_ne_lists ?n ?x ?y ?a ?b ?e ?u ?_); (case n => k_asm); (case x => walk_at "mem"); (case y => walk_at "mem"); (case a => with_reducible assumption); (case b => with_reducible assumption); (case e => exact SameL.eq (by with_reducible assumption)); (case u => walk_at "un"))))
local macro_rules | `(tactic| walk_at "compareOp NotEq ref ref") => `(tactic| (k_here; k_dflt ((refine' k_ne_same2 ?n ?x ?y ?a ?b ?e1 ?e2 ?u ?_); (case n => k_asm); (case x => walk_at "mem"); (case y => walk_at "mem"); (case a => walk_at "ok"); (case b => walk_at "ok"); (case e1 => walk_at "same"); (case e2 => walk_at "same"); (case u => walk_at "un"))))
local macro_rules | `(tactic| walk_at "binaryOp Add") => `(tactic| (k_here; (with_reducible show wpAny _ _ (binaryOp _ (kv _ _ _) (kv _ _ _)) _ _ _); k_dflt ((refine' k_add ?hz ?_); (case hz => walk_at "sz"); intro t' k')))
local macro_rules | `(tactic| walk_at "binaryOp Add ref ref") => `(tactic| (k_here; k_dflt ((refine' o_cons ?F ?N ?m ?m2 ?j ?z ?_); (case F => k_asm); (case N => k_asm); (case m => walk_at "mem"); (case m2 => walk_at "mem"); (case j => with_reducible assumption); (case z => walk_at "sz"); intro vs9 D9 h9 hvs9 F9 N9; (try dsimp only); (try k_sweep))))
local macro_rules | `(tactic| walk_at "call builtin:str.split") => `(tactic| (k_here; k_dflt ((refine' o_split ?F ?N ?z ?_); (case F => k_asm); (case N => k_asm); (case z => walk_at "sz"); intro vs9 D9 h9 k9 hvs9 F9 N9; (try dsimp only); (try k_sweep))))
local macro_rules | `(tactic| walk_at "subscriptTail Name Slice ref ref") => `(tactic| (k_here; (with_reducible show wpAny _ _ (subscriptTail _ (Expr.Slice _ _ none _) (Value.ref _) (Value.ref _)) _ _ _); k_dflt ((with_reducible rename Fr _ _ _ _ => F'); (with_reducible rename News _ _ _ _ => N'); (refine' o_rest (s := ⟨_, _, _, _, _⟩) F' N' ?m ?i ?z ?e ?_); (case m => walk_at "mem"); (case i => with_reducible assumption); (case z => walk_at "sz"); (case e => exact cuts_pos _ _); intro vs9 D9 h9 hvs9 F9 N9; (try dsimp only); (try k_sweep))))
local macro_rules | `(tactic| walk_at "nopieces") => `(tactic| fail_if_success (with_reducible show wpAny _ _ (execs (Stmt.Assign [Expr.Name (Str.ofString "pieces") _] _ _ :: _) _) _ _ _))
local macro_rules | `(tactic| walk_at "noswapped") => `(tactic| fail_if_success (with_reducible show wpAny _ _ (execs (Stmt.Assign [Expr.Name (Str.ofString "swapped") _] _ _ :: _) _) _ _ _))
local macro_rules | `(tactic| walk_at "goB") => `(tactic| repeat' ((walk_at "nowhile"); (walk_at "nofor"); (walk_at "nocomp"); (walk_at "noiter"); (walk_at "nopieces"); (walk_at "go1")))
local macro_rules | `(tactic| walk_at "goC") => `(tactic| repeat' ((walk_at "nowhile"); (walk_at "nofor"); (walk_at "nocomp"); (walk_at "noiter"); (walk_at "noswapped"); (walk_at "go1")))
theorem strs_of : ∀ {ys : List Value}, (∀ (j : Nat) (y : Value), ys[j]? = some y → ∃ (l : List Nat) (t : Tok), y = .str (S l) t ∧ l.length ≤ 3 ∧ Oct l) → ∃ xs : List (List Nat), StrsAre ys (xs.map S) ∧ xs.length = ys.length ∧ xs.flatten.length ≤ 3 * ys.length ∧ Oct xs.flatten
  | [], _ => ⟨[], .nil, rfl, by simp, by simpa using Oct.nil⟩
  | y :: ys, h => by
    obtain ⟨xs, h1, h2, h3, h4⟩ := strs_of (ys := ys) fun j y hy => h (j + 1) y (by simpa using hy)
    obtain ⟨l, t, rfl, h5, h6⟩ := h 0 y rfl
    refine ⟨l :: xs, .cons _ _ h1, by simp [h2], ?_, ?_⟩
    · rw [List.flatten_cons, List.length_append, List.length_cons]; omega
    · rw [List.flatten_cons]; exact h6.append h4
theorem pigeon : ∀ (n : Nat) (l : List Nat), (∀ j, j < n → j ∈ l) → n ≤ l.length
  | 0, _, _ => Nat.zero_le _
  | n + 1, l, h => by
    have hn : n ∈ l := h n (Nat.lt_succ_self n)
    have ih := pigeon n (l.erase n) fun j hj => (List.mem_erase_of_ne (Nat.ne_of_lt hj)).mpr (h j (Nat.lt_succ_of_lt hj))
    rw [List.length_erase_of_mem hn] at ih
    have := List.length_pos_of_mem hn
    omega
theorem ints_at : ∀ {vs : List Value} {ns : List Int} {j : Nat} {v : Value}, IntsAre vs ns → vs[j]? = some v → ∃ (k : Int) (t : Tok), v = .int k t
  | _, _, _, _, .nil, h => by simp at h
  | _, _, 0, _, .cons k t r, h => ⟨k, t, by simpa using h.symm⟩
  | _, _, j + 1, _, .cons k t r, h => ints_at (j := j) r (by simpa using h)
local macro_rules | `(tactic| walk_at "call builtin:sum") => `(tactic| (k_here; k_dflt ((refine' sumK ?h0 ?F ?N ?hl ?hi ?_); (case h0 => rfl); (case F => k_asm); (case N => k_asm); (case hl => exact Fr.lst (by assumption) (by assumption)); (case hi => with_reducible assumption); intro h' tk' t' F' N'; (try dsimp only); (try k_sweep))))
local macro_rules | `(tactic| walk_at "call builtin:str.join") => `(tactic| (k_here; k_dflt ((refine' o_join ?n ?m ?i ?z ?_); (case n => k_asm); (case m => walk_at "mem"); (case i => with_reducible assumption); (case z => omega); intro t' k')))
local macro_rules | `(tactic| walk_at "nofree") => `(tactic| fail_if_success (with_reducible show wpAny _ _ (execs (Stmt.Assign [Expr.Name (Str.ofString "free") _] _ _ :: _) _) _ _ _))
local macro_rules | `(tactic| walk_at "goA") => `(tactic| repeat' ((walk_at "nowhile"); (walk_at "nofor"); (walk_at "nocomp"); (walk_at "noiter"); (walk_at "nofree"); (walk_at "go1")))
structure Cd where
  i : Int
  t : Tok
theorem seg_a2 (w : World) (a0 D : Addr) (vs : List Value) (ns : List Int) (hI : IntsAre vs ns) (hn : ns.length ≤ 63) (its : Array Value) (ms : List Int) (hJ : IntsAre its.toList ms) (hm : its.size ≤ 8) (n : Nat) (nw : List (Addr × Obj)) (hD : (D, ({ cls := .type "list", data := .seq its n } : Obj)) ∈ nw) :
  ∀ (p : Program) (loose : List Str) (mean : ExcName → Option Value) (mg mb : Str → Option Value)
    (dp un : Nat) (gd : Option (List Code)) (a : Addr) (ccd : Value) (outer : List Env) (A₀ : Around) (base h₀ : Heap) (L : Addr) (s : Shared)
    (Q : Flow → Shared → Prop) (E : Value → Shared → Prop),
    Below A₀ base outer h₀ → Fr h₀ L s.heap (mp [(Str.ofString "script", .ref a0), (Str.ofString "numbers", .ref D)]) → (hd.heap_39 w.params).In h₀ → News h₀ L s.heap nw → Top p loose mean mg mb h₀ → dp + 30 < 1000 → un + 1000 < 9900 →
    PassesOwn (model PySem.Challenge.rw_ab6010_01.row.prog w) (ktrTop dp un gd (Str.ofString "law") lawScope L a ccd [] outer) (envOf (Str.ofString "law") lawScope L a ccd) E →
    (∀ h' tk' es' nw', Fr h₀ L h' (mp es') → News h₀ L h' nw' → Q (.ret (.bool true)) { s with heap := h', toks := tk' }) → h₀.IsList a0 vs.toArray →
    wpAny (model PySem.Challenge.rw_ab6010_01.row.prog w) (ktrTop dp un gd (Str.ofString "law") lawScope L a ccd [] outer) (execs (lawBody.drop 1) (envOf (Str.ofString "law") lawScope L a ccd)) Q E s := by
  k_fill
  intro p loose mean mg mb dp un gd a ccd outer A₀ base h₀ L s Q E B F X N T hd hu hpo hret hL0
  with_unfolding_all refine wpAny_execs_cons ?_
  walk_at "go"
  rename Fr _ _ _ _ => kF
  rename News _ _ _ _ => kN
  refine LCg.ListComp_U kF (by rfl) (by decide) (by rfl) (by decide) (by rfl) ?_
  walk_at "go"
  refine LCg.CompSrc.ledger (by rfl) kF kN hD (by rw [sizeLine_eq]; omega) fun g => ?_
  refine rest_of (fun _ y => ∃ (l : List Nat) (t : Tok), y = .str (S l) t ∧ l.length ≤ 3 ∧ Oct l) its.size (.inr ⟨_, hD, rfl, _, rfl⟩) ?turn ?fin _ 0 [] (Nat.zero_add _) rfl (by simp)
  case turn =>
    intro i v I oI C oC D' ys m₂ h tk E' hv hC hx F9 N9
    obtain ⟨k, t, rfl⟩ := ints_at (j := i) hJ (by simpa using hv)
    walk_at "go"
    exact ⟨_, _, rfl, by assumption, by assumption, _, _, rfl, by assumption, by assumption⟩
  case fin =>
    intro ys hyl hyg D2 h2 tk2 F9 N9 off9
    obtain ⟨xs, x1, x2, x3, x4⟩ := strs_of hyg
    have x5 : xs.flatten.length ≤ 24 := by omega
    walk_at "go"
    rename Fr _ _ _ _ => kF
    rename News _ _ _ _ => kN
    generalize xs.flatten = l at kF x4 x5
    refine' while_mp (σ := Cd) (fun c => [(Str.ofString "script", .ref a0), (Str.ofString "numbers", .ref D), (Str.ofString "octets", .bool (ns.sum.fmod 2 == 1)), (Str.ofString "text", .str (S l) _), (Str.ofString "code", .int c.i c.t)]) (fun _ => _)
      (fun c => 0 ≤ c.i ∧ c.i ≤ 24 ∧ ∀ j, j < c.i.toNat → j ∈ l) (fun c => (100 - c.i).toNat) ⟨0, _⟩ kF kN ⟨Int.le_refl 0, show (0 : Int) ≤ 24 by decide, fun j hj => absurd hj (by simp)⟩ ?turn hpo
    case turn =>
      rintro ⟨i, t⟩ h tk F1 N1 ⟨i0, i1, i2⟩
      dsimp only at F1 N1 i0 i1 i2 ⊢
      clear kF kN
      walk_at "goA"
      · have hall : ∀ j, j < (i + 1).toNat → j ∈ l := fun j hj => by
          by_cases e : j = i.toNat
          · rw [e]; assumption
          · exact i2 j (by omega)
        have := pigeon _ l hall
        exact ⟨⟨i + 1, _⟩, _, _, rfl, by assumption, by assumption, ⟨by show 0 ≤ i + 1; omega, by show i + 1 ≤ 24; omega, hall⟩, by show (100 - (i + 1)).toNat < (100 - i).toNat; omega⟩
      · rename Fr _ _ _ _ => F9
        rename News _ _ _ _ => N9
        have hl : l.length ≤ 100 := by omega
        have i3 : i ≤ 200 := by omega
        with_unfolding_all exact seg_b w _ l hl (fun _ => x4) i i0 i3 (by assumption) _ _ _ _ _ p loose mean mg mb dp un gd a ccd outer A₀ base h₀ L _ Q E B F9 X N9 T hd hu hpo hret
end Mine
namespace Mine
open PySem.Builtin
local macro_rules | `(tactic| walk_at "mput") => `(tactic| first | exact Put.nil | with_reducible exact Put.here | (refine' Put.there ?pa ?pb; (case pa => decide); (case pb => walk_at "mput")))
local macro_rules | `(tactic| walk_at "sz") => `(tactic| first | with_reducible assumption | omega | ((with_reducible refine sz_take ?_); walk_at "sz") | ((with_reducible refine sz_drop ?_); walk_at "sz") | ((with_reducible refine sz_lstr ?_); walk_at "sz") | ((with_reducible refine sz_rstr ?_); walk_at "sz") | ((with_reducible refine sz_spl1 ?_); walk_at "sz") | ((with_reducible refine sz_spl2 ?_); walk_at "sz") | ((with_reducible refine sz_map ?_); walk_at "sz") | (simp only [List.length_take, List.length_drop, List.length_append, List.length_map, List.length_cons, List.length_nil, List.length_replicate]; omega))
local macro_rules | `(tactic| walk_at "ix") => `(tactic| first | omega | (simp only [List.length_take, List.length_drop]; omega) | (simp only [decide_eq_true_eq, decide_eq_false_iff_not, Bool.not_eq_true] at *; omega) | ((try simp only [Int.fmod_eq_emod_of_nonneg _ (by decide : (0 : Int) ≤ 256), Int.fmod_eq_emod_of_nonneg _ (by decide : (0 : Int) ≤ 7), Int.fmod_eq_emod_of_nonneg _ (by decide : (0 : Int) ≤ 3), Int.fdiv_eq_ediv_of_nonneg _ (by decide : (0 : Int) ≤ 7), Int.fdiv_eq_ediv_of_nonneg _ (by decide : (0 : Int) ≤ 3)] at *); omega))
local macro_rules | `(tactic| walk_at "storeName") => `(tactic| (k_here; (with_reducible show wpAny _ _ (storeName (envOf _ _ _ _ _) _ _) _ _ _); (first | (with_reducible refine gen_int ?_; intro tk') | (with_reducible refine gen_str ?_; intro tk') | (with_reducible refine gen_bytes ?_; intro tk') | (with_reducible refine gen_kv ?_; intro tk') | skip); k_dflt (refine' st_any ?F ?N ?P ?_; (case F => with_reducible assumption); (case N => with_reducible assumption); (case P => walk_at "mput")); intro h' k' F' N'; (try dsimp only); (try k_sweep)))
local macro_rules | `(tactic| walk_at "eval Constant str") => `(tactic| (k_here; (first | refine o_const (l := [47]) (by decide) ?_ | refine o_const (l := [46]) (by decide) ?_ | refine o_const (l := []) (by decide) ?_); intro t' k'))
local macro_rules | `(tactic| walk_at "eval Constant bytes") => `(tactic| (k_here; (first | refine o_bconst (l := [47]) (by decide) ?_ | refine o_bconst (l := [46]) (by decide) ?_); intro t' k'))
local macro_rules | `(tactic| walk_at "call builtin:len") => `(tactic| (k_here; (first | with_reducible refine o_len ?hz ?_ | with_reducible refine o_blen ?hz ?_ | with_reducible refine k_len ?hz ?_); (case hz => walk_at "sz"); intro t' k'))
local macro_rules | `(tactic| walk_at "compareOp Eq") => `(tactic| (k_here; with_reducible refine k_eq ?a ?b ?_; (case a => walk_at "ok"); (case b => walk_at "ok")))
local macro_rules | `(tactic| walk_at "compareOp Eq str str") => `(tactic| (k_here; with_reducible refine o_eq ?_))
local macro_rules | `(tactic| walk_at "compareOp NotEq str str") => `(tactic| (k_here; with_reducible refine o_ne ?_))
local macro_rules | `(tactic| walk_at "compareOp Eq bytes bytes") => `(tactic| (k_here; with_reducible refine o_beq ?a ?b ?_; (case a => walk_at "oct"); (case b => walk_at "oct")))
local macro_rules | `(tactic| walk_at "compareOp NotEq bytes bytes") => `(tactic| (k_here; with_reducible refine o_bne ?a ?b ?_; (case a => walk_at "oct"); (case b => walk_at "oct")))
local macro_rules | `(tactic| walk_at "oct") => `(tactic| first | with_reducible assumption | ((with_reducible refine Oct.take ?_ _); walk_at "oct") | ((with_reducible refine Oct.drop ?_ _); walk_at "oct") | ((with_reducible refine Oct.rstr ?_ _); walk_at "oct") | ((with_reducible refine Oct.lstr ?_ _); walk_at "oct") | (with_reducible exact Oct.nil) | ((with_reducible refine Oct.rep ?_ _); first | with_reducible assumption | decide) | ((with_reducible refine Oct.one ?_); first | with_reducible assumption | decide))
local macro_rules | `(tactic| walk_at "ok") => `(tactic| first | with_reducible assumption | (with_reducible exact OK.nil) | ((with_reducible refine OK.one ?_); first | with_reducible assumption | decide) | ((with_reducible refine OK.take ?_ _); walk_at "ok") | ((with_reducible refine OK.drop ?_ _); walk_at "ok") | ((with_reducible refine OK.lstr ?_ _); walk_at "ok") | ((with_reducible refine OK.rstr ?_ _); walk_at "ok") | ((with_reducible refine OK.exch ?_); walk_at "ok") | ((with_reducible refine OK.splitH ?_); walk_at "ok") | ((with_reducible refine OK.spl1 ?_ _ _); walk_at "ok") | ((with_reducible refine OK.spl2 ?_ _ _); walk_at "ok") | ((with_reducible refine OK.rep ?_ _); first | with_reducible assumption | decide) | ((with_reducible refine OK.append ?_ ?_) <;> walk_at "ok"))
local macro_rules | `(tactic| walk_at "truthy") => `(tactic| (k_here; (first | with_reducible refine o_truthy ?hz ?_ | with_reducible refine o_btruthy ?hz ?_); (case hz => walk_at "sz"); intro k'))
local macro_rules | `(tactic| walk_at "binaryOp Add") => `(tactic| (k_here; with_reducible refine k_add ?hz ?_; (case hz => walk_at "sz"); intro t' k'))
local macro_rules | `(tactic| walk_at "binaryOp Add str str") => `(tactic| (k_here; with_reducible refine o_add ?hz ?_; (case hz => walk_at "sz"); intro t' k'))
local macro_rules | `(tactic| walk_at "inplaceOp Add str str") => `(tactic| (k_here; with_reducible refine o_iadd ?hz ?_; (case hz => walk_at "sz"); intro t' k'))
local macro_rules | `(tactic| walk_at "compareOp In str str") => `(tactic| (k_here; with_reducible refine o_in ?_))
local macro_rules | `(tactic| walk_at "call builtin:str.rfind") => `(tactic| (k_here; with_reducible refine o_rfind ?_; intro t' k'))
local macro_rules | `(tactic| walk_at "call builtin:bytes.rfind") => `(tactic| (k_here; with_reducible refine b_rfind ?a ?b ?_; (case a => walk_at "oct"); (case b => first | with_reducible assumption | decide); intro t' k'))
local macro_rules | `(tactic| walk_at "call builtin:bytes.rstrip") => `(tactic| (k_here; with_reducible refine b_rstrip ?a ?b ?c ?_; (case a => walk_at "oct"); (case b => first | with_reducible assumption | decide); (case c => walk_at "ix"); intro t' k'))
local macro_rules | `(tactic| walk_at "getMethod bytes") => `(tactic| (k_here; first | with_reducible refine b_method_rfind ?_ | with_reducible refine b_method_rstrip ?_))
local macro_rules | `(tactic| walk_at "call builtin:str.strip") => `(tactic| (k_here; with_reducible refine o_strip ?hz ?_; (case hz => walk_at "sz"); intro t' k'))
local macro_rules | `(tactic| walk_at "call builtin:str.lstrip") => `(tactic| (k_here; with_reducible refine o_lstrip ?hz ?_; (case hz => walk_at "sz"); intro t' k'))
local macro_rules | `(tactic| walk_at "call builtin:str.rstrip") => `(tactic| (k_here; with_reducible refine o_rstrip ?hz ?_; (case hz => walk_at "sz"); intro t' k'))
local macro_rules | `(tactic| walk_at "call builtin:ord") => `(tactic| (k_here; with_reducible refine o_ord ?_; intro t' k'))
local macro_rules | `(tactic| walk_at "call builtin:chr") => `(tactic| (k_here; with_reducible refine o_chr ?a ?b ?_; (case a => walk_at "ix"); (case b => walk_at "ix"); intro t' k'))
local macro_rules | `(tactic| walk_at "binaryOp Mult str int") => `(tactic| (k_here; with_reducible refine o_mul ?a ?b ?_; (case a => walk_at "ix"); (case b => walk_at "ix"); intro t' k'))
local macro_rules | `(tactic| walk_at "binaryOp Mult bytes int") => `(tactic| (k_here; with_reducible refine b_mul ?a ?b ?_; (case a => walk_at "ix"); (case b => walk_at "ix"); intro t' k'))
local macro_rules | `(tactic| walk_at "subscriptTail Name Name str int") => `(tactic| (k_here; (with_reducible show wpAny _ _ (subscriptTail _ _ (Value.str (S _) _) (Value.int _ _)) _ _ _); refine o_item ?a ?b ?c ?_; (case a => walk_at "ix"); (case b => walk_at "ix"); (case c => walk_at "sz"); intro t' k'))
local macro_rules | `(tactic| walk_at "subscriptTail") => `(tactic| (k_here; (with_reducible show wpAny _ _ (subscriptTail _ (Expr.Slice _ _ none _) (Value.str (S _) _) (Value.ref _)) _ _ _); (with_reducible rename Fr _ _ _ _ => F'); (with_reducible rename News _ _ _ _ => N'); (first
  | (refine o_to (s := ⟨_, _, _, _, _⟩) F' N' ?hz ?a ?_; (case hz => walk_at "sz"); (case a => walk_at "ix"))
  | (refine o_from (s := ⟨_, _, _, _, _⟩) F' N' ?hz ?a ?_; (case hz => walk_at "sz"); (case a => walk_at "ix"))
  | (refine o_mid (s := ⟨_, _, _, _, _⟩) F' N' ?hz ?a ?b ?c ?_; (case hz => walk_at "sz"); (case a => walk_at "ix"); (case b => walk_at "ix"); (case c => walk_at "ix"))); intro h' t' k' F' N'; (try k_sweep)))
local macro_rules | `(tactic| walk_at "subscriptTail Name Slice str ref") => `(tactic| walk_at "subscriptTail")
local macro_rules | `(tactic| walk_at "subscriptTail") => `(tactic| (k_here; (with_reducible show wpAny _ _ (subscriptTail _ (Expr.Slice _ _ none _) (Value.bytes (Bt _) _) (Value.ref _)) _ _ _); (with_reducible rename Fr _ _ _ _ => F'); (with_reducible rename News _ _ _ _ => N'); (first
  | (refine b_to (s := ⟨_, _, _, _, _⟩) F' N' ?hz ?a ?_; (case hz => walk_at "sz"); (case a => walk_at "ix"))
  | (refine b_from (s := ⟨_, _, _, _, _⟩) F' N' ?hz ?a ?_; (case hz => walk_at "sz"); (case a => walk_at "ix"))
  | (refine b_mid (s := ⟨_, _, _, _, _⟩) F' N' ?hz ?a ?b ?c ?_; (case hz => walk_at "sz"); (case a => walk_at "ix"); (case b => walk_at "ix"); (case c => walk_at "ix"))); intro h' t' k' F' N'; (try k_sweep)))
local macro_rules | `(tactic| walk_at "subscriptTail") => `(tactic| (k_here; (with_reducible show wpAny _ _ (subscriptTail _ (Expr.Slice _ _ none _) (kv _ _ _) (Value.ref _)) _ _ _); (with_reducible rename Fr _ _ _ _ => F'); (with_reducible rename News _ _ _ _ => N'); (refine k_from (s := ⟨_, _, _, _, _⟩) F' N' ?hz ?a ?_; (case hz => walk_at "sz"); (case a => walk_at "ix")); intro h' t' k' F' N'; (try k_sweep)))
local macro_rules | `(tactic| walk_at "compareOp NotEq ref ref") => `(tactic| (k_here; with_reducible refine k_ne_tup ?n ?x ?y ?a ?b ?c ?d ?u ?_; (case n => k_asm); (case x => k_mem); (case y => k_mem); (case a => walk_at "ok"); (case b => walk_at "ok"); (case c => walk_at "ok"); (case d => walk_at "ok"); (case u => walk_at "un")))
local macro_rules | `(tactic| walk_at "un") => `(tactic| (have hcL9 := cLine_is; (try simp only [units_in1, units_deeper, Around.mark_units, units_caller]); (try dsimp only [ktrTop] at *); omega))
local macro_rules | `(tactic| walk_at "go1") => `(tactic| first | (k_unfold; (try dsimp only)) | walk1 | (dsimp only; walk1) | (leave1; walk_say "STEP leave1"; try dsimp only))
local macro_rules | `(tactic| walk_at "nowhile") => `(tactic| fail_if_success (with_reducible show wpAny _ _ (exec (Stmt.While _ _ _ _) _) _ _ _))
local macro_rules | `(tactic| walk_at "nofor") => `(tactic| fail_if_success (with_reducible show wpAny _ _ (exec (Stmt.For _ _ _ _ _) _) _ _ _))
local macro_rules | `(tactic| walk_at "nocomp") => `(tactic| fail_if_success (with_reducible show wpAny _ _ (eval (Expr.ListComp _ _ _ _) _) _ _ _))
local macro_rules | `(tactic| walk_at "noiter") => `(tactic| fail_if_success (with_reducible show wpAny _ _ (pyIter _) _ _ _))
local macro_rules | `(tactic| walk_at "go") => `(tactic| repeat' ((walk_at "nowhile"); (walk_at "nofor"); (walk_at "nocomp"); (walk_at "noiter"); (walk_at "go1")))
local macro_rules | `(tactic| walk_at "room") => `(tactic| ((try simp only [depth_in1, depth_deeper, depth_caller]); (try dsimp only [ktrTop] at *); omega))
local macro_rules | `(tactic| walk_at "call ref") => `(tactic| (k_here; (with_reducible show wpAny _ _ (call (Value.ref 159) _ _) _ _ _); k_dflt ((refine' use_same (ct_last _ _ _ _ _ ?hl).n ?B ?F ?X ?N ?T ?hk ?hd ?hu ?_); (case hl => walk_at "sz"); (case B => k_asm); (case F => k_asm); (case X => k_asm); (case N => k_asm); (case T => k_asm); (case hk => first | exact rfl | with_reducible assumption); (case hd => walk_at "room"); (case hu => walk_at "un"); rintro v9 h9 k9 ⟨tk9, e9⟩ F9 N9; subst e9; (try dsimp only); (try k_sweep))))
local macro_rules | `(tactic| walk_at "call ref") => `(tactic| (k_here; (with_reducible show wpAny _ _ (call (Value.ref 152) _ _) _ _ _); k_dflt ((refine' use_same (ct_exchange _ _ _ ?hl).n ?B ?F ?X ?N ?T ?hk ?hd ?hu ?_); (case hl => walk_at "sz"); (case B => k_asm); (case F => k_asm); (case X => k_asm); (case N => k_asm); (case T => k_asm); (case hk => first | exact rfl | with_reducible assumption); (case hd => walk_at "room"); (case hu => walk_at "un"); rintro v9 h9 k9 ⟨tk9, e9⟩ F9 N9; subst e9; (try dsimp only); (try k_sweep))))
local macro_rules | `(tactic| walk_at "call ref") => `(tactic| (k_here; (with_reducible show wpAny _ _ (call (Value.ref 145) _ _) _ _ _); k_dflt ((refine' use_same (ct_kind _ _ _ _ ?hl ?ok).n ?B ?F ?X ?N ?T ?hk ?hd ?hu ?_); (case hl => walk_at "sz"); (case ok => walk_at "ok"); (case B => k_asm); (case F => k_asm); (case X => k_asm); (case N => k_asm); (case T => k_asm); (case hk => first | exact rfl | with_reducible assumption); (case hd => walk_at "room"); (case hu => walk_at "un"); rintro v9 h9 k9 ⟨tk9, e9⟩ F9 N9; subst e9; (try dsimp only); (try k_sweep))))
local macro_rules | `(tactic| walk_at "call ref") => `(tactic| (k_here; (with_reducible show wpAny _ _ (call (Value.ref 140) _ _) _ _ _); k_dflt ((refine' use_same (ct_signs _ _ _).n ?B ?F ?X ?N ?T ?hk ?hd ?hu ?_);  (case B => k_asm); (case F => k_asm); (case X => k_asm); (case N => k_asm); (case T => k_asm); (case hk => first | exact rfl | with_reducible assumption); (case hd => walk_at "room"); (case hu => walk_at "un"); rintro v9 h9 k9 ⟨l9, tk9, e9, hl9, ho9⟩ F9 N9; subst e9; (try dsimp only); (try k_sweep))))
local macro_rules | `(tactic| walk_at "call ref") => `(tactic| (k_here; (with_reducible show wpAny _ _ (call (Value.ref 108) _ _) _ _ _); k_dflt ((refine' use_tup (ct_spl _ _ _ _ _ _ _ _ ?hl ?ok ?ha ?hb).n ?B ?F ?X ?N ?T ?hk ?hd ?hu ?_); (case hl => walk_at "sz"); (case ok => walk_at "ok"); (case ha => first | with_reducible assumption | decide); (case hb => first | with_reducible assumption | decide); (case B => k_asm); (case F => k_asm); (case X => k_asm); (case N => k_asm); (case T => k_asm); (case hk => first | exact rfl | with_reducible assumption); (case hd => walk_at "room"); (case hu => walk_at "un"); intro D9 u9 w9 h9 k9 F9 N9; (try dsimp only); (try k_sweep))))
local macro_rules | `(tactic| walk_at "call ref") => `(tactic| (k_here; (with_reducible show wpAny _ _ (call (Value.ref 108) _ _) _ _ _); k_dflt ((refine' use_tup (o := false) (ct_splitext_s _ _ _ _ _ _ _ ?hl).n ?B ?F ?X ?N ?T ?hk ?hd ?hu ?_); (case hl => walk_at "sz"); (case B => k_asm); (case F => k_asm); (case X => k_asm); (case N => k_asm); (case T => k_asm); (case hk => first | exact rfl | with_reducible assumption); (case hd => walk_at "room"); (case hu => walk_at "un"); intro D9 u9 w9 h9 k9 F9 N9; (try dsimp only); (try k_sweep))))
local macro_rules | `(tactic| walk_at "call ref") => `(tactic| (k_here; (with_reducible show wpAny _ _ (call (Value.ref 108) _ _) _ _ _); k_dflt ((refine' use_tup (o := true) (ct_splitext_b _ _ _ _ _ _ _ ?hl ?oct ?ha ?hb).n ?B ?F ?X ?N ?T ?hk ?hd ?hu ?_); (case hl => walk_at "sz"); (case oct => walk_at "oct"); (case ha => first | with_reducible assumption | decide); (case hb => first | with_reducible assumption | decide); (case B => k_asm); (case F => k_asm); (case X => k_asm); (case N => k_asm); (case T => k_asm); (case hk => first | exact rfl | with_reducible assumption); (case hd => walk_at "room"); (case hu => walk_at "un"); intro D9 u9 w9 h9 k9 F9 N9; (try dsimp only); (try k_sweep))))
local macro_rules | `(tactic| walk_at "call ref") => `(tactic| (k_here; (with_reducible show wpAny _ _ (call (Value.ref 101) _ _) _ _ _); k_dflt ((refine' use_same (ct_fspath_s _ _ _).n ?B ?F ?X ?N ?T ?hk ?hd ?hu ?_);  (case B => k_asm); (case F => k_asm); (case X => k_asm); (case N => k_asm); (case T => k_asm); (case hk => first | exact rfl | with_reducible assumption); (case hd => walk_at "room"); (case hu => walk_at "un"); rintro v9 h9 k9 e9 F9 N9; subst e9; (try dsimp only); (try k_sweep))))
local macro_rules | `(tactic| walk_at "call ref") => `(tactic| (k_here; (with_reducible show wpAny _ _ (call (Value.ref 101) _ _) _ _ _); k_dflt ((refine' use_same (ct_fspath_b _ _ _).n ?B ?F ?X ?N ?T ?hk ?hd ?hu ?_);  (case B => k_asm); (case F => k_asm); (case X => k_asm); (case N => k_asm); (case T => k_asm); (case hk => first | exact rfl | with_reducible assumption); (case hd => walk_at "room"); (case hu => walk_at "un"); rintro v9 h9 k9 e9 F9 N9; subst e9; (try dsimp only); (try k_sweep))))
local macro_rules | `(tactic| walk_at "call ref") => `(tactic| (k_here; (with_reducible show wpAny _ _ (call (Value.ref 115) _ _) _ _ _); k_dflt ((refine' use_same (ct_getsep_s _ _ _).n ?B ?F ?X ?N ?T ?hk ?hd ?hu ?_);  (case B => k_asm); (case F => k_asm); (case X => k_asm); (case N => k_asm); (case T => k_asm); (case hk => first | exact rfl | with_reducible assumption); (case hd => walk_at "room"); (case hu => walk_at "un"); rintro v9 h9 k9 ⟨tk9, e9⟩ F9 N9; subst e9; (try dsimp only); (try k_sweep))))
local macro_rules | `(tactic| walk_at "call ref") => `(tactic| (k_here; (with_reducible show wpAny _ _ (call (Value.ref 115) _ _) _ _ _); k_dflt ((refine' use_same (ct_getsep_b _ _ _).n ?B ?F ?X ?N ?T ?hk ?hd ?hu ?_);  (case B => k_asm); (case F => k_asm); (case X => k_asm); (case N => k_asm); (case T => k_asm); (case hk => first | exact rfl | with_reducible assumption); (case hd => walk_at "room"); (case hu => walk_at "un"); rintro v9 h9 k9 ⟨tk9, e9⟩ F9 N9; subst e9; (try dsimp only); (try k_sweep))))
local macro_rules | `(tactic| walk_at "call ref") => `(tactic| (k_here; (with_reducible show wpAny _ _ (call (Value.ref 166) _ _) _ _ _); k_dflt ((refine' use_tup (ct_cut _ _ _ _ _ _ ?hl ?ok ?hc) ?B ?F ?X ?N ?T ?hk ?hd ?hu ?_); (case hl => walk_at "sz"); (case ok => walk_at "ok"); (case hc => first | with_reducible assumption | decide); (case B => k_asm); (case F => k_asm); (case X => k_asm); (case N => k_asm); (case T => k_asm); (case hk => first | exact rfl | with_reducible assumption); (case hd => walk_at "room"); (case hu => walk_at "un"); intro D9 u9 w9 h9 k9 F9 N9; (try dsimp only); (try k_sweep))))
local macro_rules | `(tactic| walk_at "call ref") => `(tactic| (k_here; (with_reducible show wpAny _ _ (call (Value.ref 173) _ _) _ _ _); k_dflt ((refine' use_tup (ct_due _ _ _ _ ?hl ?ok) ?B ?F ?X ?N ?T ?hk ?hd ?hu ?_); (case hl => walk_at "sz"); (case ok => walk_at "ok"); (case B => k_asm); (case F => k_asm); (case X => k_asm); (case N => k_asm); (case T => k_asm); (case hk => first | exact rfl | with_reducible assumption); (case hd => walk_at "room"); (case hu => walk_at "un"); intro D9 u9 w9 h9 k9 F9 N9; (try dsimp only); (try k_sweep))))
local macro_rules | `(tactic| walk_at "call ref") => `(tactic| (k_here; (with_reducible show wpAny _ _ (call (Value.ref 122) _ _) _ _ _); k_dflt ((refine' use_tup (ct_split _ _ _ _ ?hl ?ok) ?B ?F ?X ?N ?T ?hk ?hd ?hu ?_); (case hl => walk_at "sz"); (case ok => walk_at "ok"); (case B => k_asm); (case F => k_asm); (case X => k_asm); (case N => k_asm); (case T => k_asm); (case hk => first | exact rfl | with_reducible assumption); (case hd => walk_at "room"); (case hu => walk_at "un"); intro D9 u9 w9 h9 k9 F9 N9; (try dsimp only); (try k_sweep))))
local macro_rules | `(tactic| walk_at "call ref") => `(tactic| (k_here; (with_reducible show wpAny _ _ (call (Value.ref 129) _ _) _ _ _); k_dflt ((refine' use_tup (ct_spt _ _ _ _ ?hl ?ok) ?B ?F ?X ?N ?T ?hk ?hd ?hu ?_); (case hl => walk_at "sz"); (case ok => walk_at "ok"); (case B => k_asm); (case F => k_asm); (case X => k_asm); (case N => k_asm); (case T => k_asm); (case hk => first | exact rfl | with_reducible assumption); (case hd => walk_at "room"); (case hu => walk_at "un"); intro D9 u9 w9 h9 k9 F9 N9; (try dsimp only); (try k_sweep))))
local macro_rules | `(tactic| walk_at "compareOp NotEq ref ref") => `(tactic| (k_here; k_dflt ((refine' k_ne_same2 ?n ?x ?y ?a ?b ?e1 ?e2 ?u ?_); (case n => k_asm); (case x => k_mem); (case y => k_mem); (case a => walk_at "ok"); (case b => walk_at "ok"); (case e1 => with_reducible assumption); (case e2 => with_reducible assumption); (case u => walk_at "un"))))
local macro_rules | `(tactic| walk_at "ite") => `(tactic| first | with_reducible refine ite_ff ?_ | with_reducible refine ite_tt ?_)
local macro_rules | `(tactic| walk_at "mem") => `(tactic| first | with_reducible assumption | exact List.Mem.head _ | (refine' List.mem_cons_of_mem _ ?_; walk_at "mem"))
local macro_rules | `(tactic| walk_at "sz") => `(tactic| ((with_reducible refine sz_cuts ?_); walk_at "sz"))
local macro_rules | `(tactic| walk_at "same") => `(tactic| first | with_reducible assumption | (with_reducible exact Same.rf) | exact b_h1 (by with_reducible assumption) (by with_reducible assumption) | exact b_h2 (by with_reducible assumption) (by with_reducible assumption))
local macro_rules | `(tactic| walk_at "ix") => `(tactic| first | exact b_k (by with_reducible assumption) (by with_reducible assumption) | (have h9 := c_ix (by with_reducible assumption) (by with_reducible assumption) (by with_reducible assumption); omega))
local macro_rules | `(tactic| walk_at "subscriptTail") => `(tactic| (k_here; (with_reducible show wpAny _ _ (subscriptTail _ _ (Value.ref _) (Value.int 0 _)) _ _ _); k_dflt ((refine' o_first ?n ?m ?i ?x ?_); (case n => k_asm); (case m => walk_at "mem"); (case i => with_reducible assumption); (case x => with_reducible assumption); intro t')))
local macro_rules | `(tactic| walk_at "subscriptTail") => `(tactic| (k_here; (with_reducible show wpAny _ _ (subscriptTail _ _ (Value.ref _) (Value.int 0 _)) _ _ _); k_dflt ((refine' t_item0 ?n ?m ?_); (case n => k_asm); (case m => walk_at "mem"))))
local macro_rules | `(tactic| walk_at "subscriptTail") => `(tactic| (k_here; (with_reducible show wpAny _ _ (subscriptTail _ _ (Value.ref _) (Value.int 1 _)) _ _ _); k_dflt ((refine' t_item1 ?n ?m ?_); (case n => k_asm); (case m => walk_at "mem"))))
local macro_rules | `(tactic| walk_at "subscriptTail Name Constant ref int") => `(tactic| walk_at "subscriptTail")
local macro_rules | `(tactic| walk_at "compareOp NotEq ref ref") => `(tactic| (k_here; k_dflt ((refine' o_ne_lists ?n ?x ?y ?a ?b ?e ?u ?_); (case n => k_asm); (case x => walk_at "mem"); (case y => walk_at "mem"); (case a => with_reducible assumption); (case b => with_reducible assumption); (case e => exact SameL.eq (by with_reducible assumption)); (case u => walk_at "un"))))
local macro_rules | `(tactic| walk_at "compareOp NotEq ref ref") => `(tactic| (k_here; k_dflt ((refine' k_ne_same2 ?n ?x ?y ?a ?b ?e1 ?e2 ?u ?_); (case n => k_asm); (case x => walk_at "mem"); (case y => walk_at "mem"); (case a => walk_at "ok"); (case b => walk_at "ok"); (case e1 => walk_at "same"); (case e2 => walk_at "same"); (case u => walk_at "un"))))
local macro_rules | `(tactic| walk_at "binaryOp Add") => `(tactic| (k_here; (with_reducible show wpAny _ _ (binaryOp _ (kv _ _ _) (kv _ _ _)) _ _ _); k_dflt ((refine' k_add ?hz ?_); (case hz => walk_at "sz"); intro t' k')))
local macro_rules | `(tactic| walk_at "binaryOp Add ref ref") => `(tactic| (k_here; k_dflt ((refine' o_cons ?F ?N ?m ?m2 ?j ?z ?_); (case F => k_asm); (case N => k_asm); (case m => walk_at "mem"); (case m2 => walk_at "mem"); (case j => with_reducible assumption); (case z => walk_at "sz"); intro vs9 D9 h9 hvs9 F9 N9; (try dsimp only); (try k_sweep))))
local macro_rules | `(tactic| walk_at "call builtin:str.split") => `(tactic| (k_here; k_dflt ((refine' o_split ?F ?N ?z ?_); (case F => k_asm); (case N => k_asm); (case z => walk_at "sz"); intro vs9 D9 h9 k9 hvs9 F9 N9; (try dsimp only); (try k_sweep))))
local macro_rules | `(tactic| walk_at "subscriptTail Name Slice ref ref") => `(tactic| (k_here; (with_reducible show wpAny _ _ (subscriptTail _ (Expr.Slice _ _ none _) (Value.ref _) (Value.ref _)) _ _ _); k_dflt ((with_reducible rename Fr _ _ _ _ => F'); (with_reducible rename News _ _ _ _ => N'); (refine' o_rest (s := ⟨_, _, _, _, _⟩) F' N' ?m ?i ?z ?e ?_); (case m => walk_at "mem"); (case i => with_reducible assumption); (case z => walk_at "sz"); (case e => exact cuts_pos _ _); intro vs9 D9 h9 hvs9 F9 N9; (try dsimp only); (try k_sweep))))
local macro_rules | `(tactic| walk_at "nopieces") => `(tactic| fail_if_success (with_reducible show wpAny _ _ (execs (Stmt.Assign [Expr.Name (Str.ofString "pieces") _] _ _ :: _) _) _ _ _))
local macro_rules | `(tactic| walk_at "noswapped") => `(tactic| fail_if_success (with_reducible show wpAny _ _ (execs (Stmt.Assign [Expr.Name (Str.ofString "swapped") _] _ _ :: _) _) _ _ _))
local macro_rules | `(tactic| walk_at "goB") => `(tactic| repeat' ((walk_at "nowhile"); (walk_at "nofor"); (walk_at "nocomp"); (walk_at "noiter"); (walk_at "nopieces"); (walk_at "go1")))
local macro_rules | `(tactic| walk_at "goC") => `(tactic| repeat' ((walk_at "nowhile"); (walk_at "nofor"); (walk_at "nocomp"); (walk_at "noiter"); (walk_at "noswapped"); (walk_at "go1")))
local macro_rules | `(tactic| walk_at "nooct") => `(tactic| fail_if_success (with_reducible show wpAny _ _ (execs (Stmt.Assign [Expr.Name (Str.ofString "octets") _] _ _ :: _) _) _ _ _))
local macro_rules | `(tactic| walk_at "goN") => `(tactic| repeat' ((walk_at "nowhile"); (walk_at "nofor"); (walk_at "nocomp"); (walk_at "noiter"); (walk_at "nooct"); (walk_at "go1")))
theorem seg_a (w : World) (a0 : Addr) (vs : List Value) (ns : List Int) (hI : IntsAre vs ns) (hn : ns.length ≤ 63) :
  ∀ (p : Program) (loose : List Str) (mean : ExcName → Option Value) (mg mb : Str → Option Value)
    (dp un : Nat) (gd : Option (List Code)) (a : Addr) (ccd : Value) (outer : List Env) (A₀ : Around) (base h₀ : Heap) (L : Addr) (s : Shared)
    (Q : Flow → Shared → Prop) (E : Value → Shared → Prop),
    Below A₀ base outer h₀ → Fr h₀ L s.heap (mp [(Str.ofString "script", .ref a0)]) → (hd.heap_39 w.params).In h₀ → News h₀ L s.heap [] → Top p loose mean mg mb h₀ → dp + 30 < 1000 → un + 1000 < 9900 →
    PassesOwn (model PySem.Challenge.rw_ab6010_01.row.prog w) (ktrTop dp un gd (Str.ofString "law") lawScope L a ccd [] outer) (envOf (Str.ofString "law") lawScope L a ccd) E →
    (∀ h' tk' es' nw', Fr h₀ L h' (mp es') → News h₀ L h' nw' → Q (.ret (.bool true)) { s with heap := h', toks := tk' }) → h₀.IsList a0 vs.toArray →
    wpAny (model PySem.Challenge.rw_ab6010_01.row.prog w) (ktrTop dp un gd (Str.ofString "law") lawScope L a ccd [] outer) (execs lawBody (envOf (Str.ofString "law") lawScope L a ccd)) Q E s := by
  k_fill
  intro p loose mean mg mb dp un gd a ccd outer A₀ base h₀ L s Q E B F X N T hd hu hpo hret hL0
  with_unfolding_all refine wpAny_execs_cons ?_
  walk_at "goN"
  · rename Fr _ _ _ _ => F9
    rename News _ _ _ _ => N9
    rename IntsAre _ (List.take 8 ns) => hW
    have hz := hW.length
    have hz8 : (List.take 8 ns).length ≤ 8 := by rw [List.length_take]; omega
    with_unfolding_all exact seg_a2 w a0 _ vs ns hI hn _ _ hW (by simp only [List.size_toArray]; omega) 0 _ (List.Mem.head _) p loose mean mg mb dp un gd a ccd outer A₀ base h₀ L _ Q E B F9 X N9 T hd hu hpo hret hL0
  · rename Fr _ _ _ _ => F9
    rename News _ _ _ _ => N9
    with_unfolding_all exact seg_a2 w a0 _ vs ns hI hn _ _ (.cons _ _ (.cons _ _ (.cons _ _ (.cons _ _ .nil)))) (Nat.le_of_ble_eq_true rfl) 0 _ (List.Mem.head _) p loose mean mg mb dp un gd a ccd outer A₀ base h₀ L _ Q E B F9 X N9 T hd hu hpo hret hL0
end Mine
namespace Mine
theorem top_holds : PySem.Challenge.rw_ab6010_01.Holds := hd (by
  k_go0
  rename (PySem.PyData.list _).layable0 = true => hLy
  rename IntsAre _ _ => hI
  rename Heap.IsList _ _ _ => hL
  rename Below _ _ _ _ => K0
  rename Fr _ _ _ _ => F
  rename News _ _ _ _ => N0
  rename Frag.In _ _ => KX
  rename Top _ _ _ _ _ _ => T
  refine seg_a _ _ _ _ hI ?hn _ _ _ _ _ _ _ _ _ _ _ _ _ _ _ _ _ _ K0 F KX N0 T ?hd ?hu ?hpo ?hret hL
  case hn => omega
  case hd => decide
  case hu => decide
  case hpo => passes_own
  case hret =>
    intro h' tk' es' nw' F' N'
    wrow_close)
end Mine
theorem PySem.Challenge.cw_ab6010_01_holds : PySem.Challenge.rw_ab6010_01.Holds := by
  exact Mine.top_holds
