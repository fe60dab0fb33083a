/-
  THE SCANNER's STATE; what each piece of Scan does to it.
-/
import Derived.Test.Qxb6613145aFmtScanC
import Derived.Test.Qxb6613145aFmtScanD
namespace Go.Proofs.Qxb6613145aFmt
open Go.RowKit
set_option maxRecDepth 100000

def rdV (sr : Nat) : Value := .iface 43 (.pointer (some ⟨sr, 0, none⟩))
def bufV (ob : Option Nat) (L : Nat) : Value := .slice (ob.map fun b => ⟨b, 0, none⟩) L L

theorem Keep.cell {S : Nat → Prop} {w w' : World} (h : Keep S w w') {a : Addr} {v : Value} (hc : w.cell? a = some v) (hs : ¬ S a.block) : w'.cell? a = some v := by
  have hlt : a.block < w.heap.size := by
    rcases Nat.lt_or_ge a.block w.heap.size with h | h
    · exact h
    · simp [World.cell?, Array.getElem?_eq_none h] at hc
  rw [← hc]
  exact World.cell?_of_block (h.block a.block hlt hs)

/-- Two blocks of other element types are two. -/
theorem Blk.ne {w : World} {b c : Nat} {cs ds : Array Value} {t u : TypeId} (h : Blk w b cs t) (h' : Blk w c ds u) (htu : t ≠ u) : b ≠ c := fun e => by
  subst e
  unfold Blk at h h'
  rw [h] at h'
  injection h' with h'
  injection h' with _ h2
  exact htu h2

structure St (w : World) (sc sr : Nat) (te : TypeId) (tv : Value) (s : ByteArray) (rest : List UInt8) (ob : Option Nat) (L : Nat) (bs : List UInt8) (st en i : Nat) (pr : Int) (err tok : Value) (cl : Bool) : Prop where
  hB : Blk w sc (scC (rdV sr) tok (bufV ob L) st en err cl) 67
  hR : Blk w sr (srC s i pr) 60
  hF : ∀ bf, ob = some bf → Blk w bf (bs.map byteV).toArray 5
  hN : ob = none → L = 0
  hlen : bs.length = L
  hse : st ≤ en
  hen : en ≤ L
  hL : L ≤ 131072
  hpos : ob ≠ none → 0 < L
  hi : i ≤ s.size
  hbuf : en - st ≤ i
  hrest : rest = (bs.drop st).take (en - st) ++ s.data.toList.drop i
  herr : err = .nilIface ∨ (err = .iface te tv ∧ i = s.size ∧ ob ≠ none)
  hG : w.cell? ⟨4, 0, none⟩ = some (.iface te tv)
  hsz : s.size ≤ 65536
  lo : 7 ≤ sc ∧ 7 ≤ sr ∧ ∀ bf, ob = some bf → 7 ≤ bf

def Own (sc sr : Nat) (ob : Option Nat) (k : Nat) : Prop := k = sc ∨ k = sr ∨ ob = some k
/-- The buffer is the one that it was, or a new one. -/
def Fresh (w : World) (ob ob' : Option Nat) : Prop := ob' = ob ∨ ∃ b, ob' = some b ∧ w.heap.size ≤ b

theorem Fresh.refl (w : World) (ob : Option Nat) : Fresh w ob ob := .inl rfl
theorem Fresh.trans {w w1 : World} {ob ob1 ob2 : Option Nat} (h : Fresh w ob ob1) (hs : w.heap.size ≤ w1.heap.size) (h' : Fresh w1 ob1 ob2) : Fresh w ob ob2 := by
  rcases h' with rfl | ⟨b, hb, hlt⟩
  · exact h
  · exact .inr ⟨b, hb, by omega⟩
theorem keepOwn_trans {w w1 w2 : World} {sc sr : Nat} {ob ob1 : Option Nat} (h : Keep (Own sc sr ob) w w1) (hf : Fresh w ob ob1) (h' : Keep (Own sc sr ob1) w1 w2) : Keep (Own sc sr ob) w w2 := by
  refine h.since (h'.mono ?_)
  intro k _ hk
  rcases hk with hk | hk | hk
  · exact .inl (.inl hk)
  · exact .inl (.inr (.inl hk))
  · rcases hf with rfl | ⟨b, hb, hlt⟩
    · exact .inl (.inr (.inr hk))
    · rw [hb] at hk; cases hk; exact .inr hlt

theorem St.notOwn4 {w : World} {sc sr : Nat} {te : TypeId} {tv : Value} {s : ByteArray} {rest : List UInt8} {ob : Option Nat} {L : Nat} {bs : List UInt8} {st en i : Nat} {pr : Int} {err tok : Value} {cl : Bool}
    (h : St w sc sr te tv s rest ob L bs st en i pr err tok cl) (k : Nat) (hk : k < 7) : ¬ Own sc sr ob k := by
  obtain ⟨h1, h2, h3⟩ := h.lo
  rintro (e | e | e)
  · omega
  · omega
  · have := h3 k e; omega

/-! ### lists -/
theorem shift_list {bs ys : List UInt8} {st en : Nat} (hse : st ≤ en) (hen : en ≤ bs.length) (hys : ys = (bs.drop st).take (en - st)) :
    (bs.take 0 ++ ys ++ bs.drop (0 + ys.length)).length = bs.length ∧ ((bs.take 0 ++ ys ++ bs.drop (0 + ys.length)).drop 0).take (en - st - 0) = (bs.drop st).take (en - st) := by
  have hyl : ys.length = en - st := by rw [hys, List.length_take, List.length_drop]; omega
  refine ⟨by simp [hyl]; omega, ?_⟩
  rw [← hys]
  simp [← hyl]
theorem grow_list {bs : List UInt8} {L : Nat} (hlen : bs.length = L) :
    ((List.replicate (L * 2) (0 : UInt8)).take 0 ++ bs.take L ++ (List.replicate (L * 2) 0).drop (0 + (bs.take L).length)).length = L * 2 ∧
    ((((List.replicate (L * 2) (0 : UInt8)).take 0 ++ bs.take L ++ (List.replicate (L * 2) 0).drop (0 + (bs.take L).length)).drop 0).take (L - 0)) = (bs.drop 0).take (L - 0) := by
  have hbl : bs.take L = bs := List.take_of_length_le (by omega)
  rw [hbl]
  refine ⟨by simp; omega, ?_⟩
  simp [← hlen]
theorem data_list {bs ys d : List UInt8} {st en i m : Nat} (hse : st ≤ en) (hen : en ≤ bs.length) (hfit : en + ys.length ≤ bs.length) (hys : ys = (d.drop i).take m) :
    (bs.take en ++ ys ++ bs.drop (en + ys.length)).length = bs.length ∧
    ((bs.take en ++ ys ++ bs.drop (en + ys.length)).drop st).take (en + ys.length - st) ++ d.drop (i + ys.length) = (bs.drop st).take (en - st) ++ d.drop i := by
  refine ⟨by simp; omega, ?_⟩
  have h1 : d.drop i = ys ++ d.drop (i + ys.length) := by
    have e : ys = (d.drop i).take ys.length := by
      rw [hys, List.length_take, List.take_eq_take_iff]
      omega
    rw [← List.drop_drop]
    conv => lhs; rw [← List.take_append_drop ys.length (d.drop i)]
    rw [← e]
  rw [h1, ← List.append_assoc]
  congr 1
  have h2 : (bs.take en ++ ys ++ bs.drop (en + ys.length)).drop st = (bs.drop st).take (en - st) ++ ys ++ bs.drop (en + ys.length) := by
    rw [List.append_assoc, List.drop_append_of_le_length (by simp; omega), List.drop_take, List.append_assoc]
  rw [h2]
  have hl : ((bs.drop st).take (en - st) ++ ys).length = en + ys.length - st := by simp; omega
  rw [← hl, List.take_left]

/-! ### the pieces over the state -/
section
variable {Q : Exit → Env → World → Prop} {E : Env} {w : World} {sc sr : Nat} {te : TypeId} {tv : Value} {s : ByteArray} {rest : List UInt8} {ob : Option Nat} {L : Nat} {bs : List UInt8} {st en i : Nat} {pr : Int} {tok : Value} {cl : Bool}

theorem keepSc {w w' : World} (h : Keep (fun k => k = sc) w w') : Keep (Own sc sr ob) w w' := h.mono fun _ _ hk => .inl hk

/-- The state carried over where only the scanner's own cells have turned. -/
theorem St.own {err : Value} (h : St w sc sr te tv s rest ob L bs st en i pr err tok cl) {w' : World} (hk : Keep (fun k => k = sc) w w') {tok' err' : Value} {st' en' : Nat} {rest' : List UInt8} {cl' : Bool}
    (hB : Blk w' sc (scC (rdV sr) tok' (bufV ob L) st' en' err' cl') 67) (hse : st' ≤ en') (hen : en' ≤ L) (hbuf : en' - st' ≤ i) (hrest : rest' = (bs.drop st').take (en' - st') ++ s.data.toList.drop i)
    (herr : err' = .nilIface ∨ (err' = .iface te tv ∧ i = s.size ∧ ob ≠ none)) : St w' sc sr te tv s rest' ob L bs st' en' i pr err' tok' cl' :=
  { hB := hB, hR := hk.blk h.hR (fun e => (h.hB.ne h.hR (by decide)) e.symm), hF := fun bf hbf => hk.blk (h.hF bf hbf) (fun e => (h.hB.ne (h.hF bf hbf) (by decide)) e.symm), hN := h.hN, hlen := h.hlen, hse := hse, hen := hen, hL := h.hL, hpos := h.hpos, hi := h.hi,
    hbuf := hbuf, hrest := hrest, herr := herr, hG := hk.cell h.hG (fun e => by have := h.lo.1; have e' : (4 : Nat) = sc := e; omega), hsz := h.hsz, lo := h.lo }

theorem st_seg3 {c : Code} (hc : findCond 153 (Tryf.f26.body.getD .skip) = some c) (hE : E 0 = .pointer (some ⟨sc, 0, none⟩)) (h : St w sc sr te tv s rest ob L bs st en i pr .nilIface tok cl)
    (hQ : ∀ E' w' bs' st' en', E' 0 = .pointer (some ⟨sc, 0, none⟩) → St w' sc sr te tv s rest ob L bs' st' en' i pr .nilIface tok cl → (en' = L → st' = 0) → Keep (Own sc sr ob) w w' → Q .normal E' w') :
    cE Tryf.prog 334 c Q E w := by
  have hse := h.hse
  have hen := h.hen
  have hL := h.hL
  by_cases h0 : st = 0
  · refine seg3_no1 hc hE h.hB h0 ?_
    intro E' w' hE' hB' hK
    exact hQ E' w' bs st en hE' (h.own hK hB' h.hse h.hen h.hbuf h.hrest h.herr) (fun _ => h0) (keepSc hK)
  · cases ob with
    | none => have := h.hN rfl; omega
    | some bf =>
      have hF := h.hF bf rfl
      have hne : sc ≠ bf := h.hB.ne hF (by decide)
      have hyl := shift_list (bs := bs) (st := st) (en := en) (ys := (bs.drop st).take (en - st)) h.hse (by rw [h.hlen]; exact h.hen) rfl
      have shifted : ∀ E' w', E' 0 = .pointer (some ⟨sc, 0, none⟩) → Blk w' sc (scC (rdV sr) tok (.slice (some ⟨bf, 0, none⟩) L L) 0 (en - st) .nilIface cl) 67 →
          Blk w' bf ((bs.take 0 ++ (bs.drop st).take (en - st) ++ bs.drop (0 + ((bs.drop st).take (en - st)).length)).map byteV).toArray 5 → Keep (fun k => k = sc ∨ k = bf) w w' → Q .normal E' w' := by
        intro E' w' hE' hB' hF' hK
        have hK' : Keep (Own sc sr (some bf)) w w' := hK.mono fun k _ hk => hk.elim .inl (fun e => .inr (.inr (by rw [e])))
        refine hQ E' w' (bs.take 0 ++ (bs.drop st).take (en - st) ++ bs.drop (0 + ((bs.drop st).take (en - st)).length)) 0 (en - st) hE' ?_ (fun _ => rfl) hK'
        exact { hB := hB', hR := hK.blk h.hR (fun e => e.elim (fun e => (h.hB.ne h.hR (by decide)) e.symm) (fun e => (h.hR.ne hF (by decide)) e)), hF := fun b hb => (by cases hb; exact hF'), hN := fun e => (by cases e),
                hlen := by rw [hyl.1, h.hlen], hse := (by omega), hen := (by omega), hL := h.hL, hpos := h.hpos, hi := h.hi, hbuf := by have := h.hbuf; omega,
                hrest := (by rw [hyl.2]; exact h.hrest), herr := h.herr, hG := hK'.cell h.hG (h.notOwn4 4 (by omega)), hsz := h.hsz, lo := h.lo }
      by_cases hf : en = L
      · exact seg3_sh1 hc hE h.hB hF hne h.hlen (by omega) h.hse h.hen (by omega) rfl hf shifted
      · by_cases hh : L / 2 < st
        · exact seg3_sh2 hc hE h.hB hF hne h.hlen (by omega) h.hse h.hen (by omega) rfl hf hh shifted
        · refine seg3_no2 hc hE h.hB (by omega) hf (by omega) (by omega) ?_
          intro E' w' hE' hB' hK
          exact hQ E' w' bs st en hE' (h.own hK hB' h.hse h.hen h.hbuf h.hrest h.herr) (fun e => absurd e hf) (keepSc hK)

theorem st_seg4 {c : Code} (hc : findCond 195 (Tryf.f26.body.getD .skip) = some c) (hE : E 0 = .pointer (some ⟨sc, 0, none⟩)) (h : St w sc sr te tv s rest ob L bs st en i pr .nilIface tok cl) (hfull : en = L → st = 0)
    (hQ : ∀ E' w' bf L' bs' st' en', E' 0 = .pointer (some ⟨sc, 0, none⟩) → St w' sc sr te tv s rest (some bf) L' bs' st' en' i pr .nilIface tok cl → en' < L' → Keep (Own sc sr ob) w w' → Fresh w ob (some bf) → Q .normal E' w') :
    cE Tryf.prog 334 c Q E w := by
  have hse := h.hse
  have hen := h.hen
  have hL := h.hL
  have hbuf := h.hbuf
  have hi := h.hi
  have hsz := h.hsz
  have hsc := h.hB.lt
  have hfr : 7 ≤ w.heap.size := by have := h.lo.1; omega
  cases hob : ob with
  | none =>
    subst hob
    have h0 : L = 0 := h.hN rfl
    subst h0
    have e1 : en = 0 := by omega
    have e2 : st = 0 := by omega
    subst e1; subst e2
    refine seg4_nil hc hE h.hB ?_
    intro E' w' hE' hB' hN' hK
    have hK' : Keep (Own sc sr none) w w' := keepSc hK
    refine hQ E' w' w.heap.size 4096 (List.replicate 4096 0) 0 0 hE' ?_ (by omega) hK' (.inr ⟨_, rfl, Nat.le_refl _⟩)
    exact { hB := hB', hR := hK.blk h.hR (fun e => (h.hB.ne h.hR (by decide)) e.symm), hF := fun b hb => (by cases hb; exact hN'), hN := fun e => (by cases e), hlen := List.length_replicate, hse := Nat.le_refl _, hen := (by omega), hL := (by omega), hpos := fun _ => by omega,
            hi := h.hi, hbuf := (by omega), hrest := (by have := h.hrest; simpa using this), herr := .inl rfl, hG := hK'.cell h.hG (h.notOwn4 4 (by omega)), hsz := h.hsz, lo := ⟨h.lo.1, h.lo.2.1, fun b hb => (by cases hb; exact hfr)⟩ }
  | some bf =>
    subst hob
    by_cases hf : en = L
    · have h0 := hfull hf
      subst h0
      subst hf
      have hF := h.hF bf rfl
      have hgl := grow_list h.hlen
      have hpos := h.hpos (by simp)
      refine seg4_grow hc hE h.hB hF h.hlen hpos (by omega) ?_
      intro E' w' hE' hB' hN' hK
      have hK' : Keep (Own sc sr (some bf)) w w' := keepSc hK
      refine hQ E' w' w.heap.size (en * 2) ((List.replicate (en * 2) (0 : UInt8)).take 0 ++ bs.take en ++ (List.replicate (en * 2) 0).drop (0 + (bs.take en).length)) 0 en hE' ?_ (by omega) hK' (.inr ⟨_, rfl, Nat.le_refl _⟩)
      exact { hB := hB', hR := hK.blk h.hR (fun e => (h.hB.ne h.hR (by decide)) e.symm), hF := fun b hb => (by cases hb; exact hN'), hN := fun e => (by cases e), hlen := hgl.1, hse := (by omega), hen := (by omega), hL := (by omega), hpos := fun _ => by omega,
              hi := h.hi, hbuf := h.hbuf, hrest := (by rw [hgl.2]; exact h.hrest), herr := .inl rfl, hG := hK'.cell h.hG (h.notOwn4 4 (by omega)), hsz := h.hsz, lo := ⟨h.lo.1, h.lo.2.1, fun b hb => (by cases hb; exact hfr)⟩ }
    · refine seg4_no hc hE h.hB hf ?_
      intro E' w' hE' hB' hK
      exact hQ E' w' bf L bs st en hE' (h.own hK hB' h.hse h.hen h.hbuf h.hrest h.herr) (by omega) (keepSc hK) (.inl rfl)

theorem st_seg5 {c : Code} {bf : Nat} (hc : findBlock 2 (Tryf.f26.body.getD .skip) = some c) (hE : E 0 = .pointer (some ⟨sc, 0, none⟩)) (h : St w sc sr te tv s rest (some bf) L bs st en i pr .nilIface tok cl) (hlt : en < L)
    (hQ : ∀ E' w' bs' en' i' pr' err', E' 0 = .pointer (some ⟨sc, 0, none⟩) → St w' sc sr te tv s rest (some bf) L bs' st en' i' pr' err' tok cl → (i < i' ∧ err' = .nilIface) ∨ (i' = i ∧ err' = .iface te tv) → Keep (Own sc sr (some bf)) w w' → Q .normal E' w') :
    cE Tryf.prog 334 c Q E w := by
  have hse := h.hse
  have hL := h.hL
  have hbuf := h.hbuf
  have hi := h.hi
  have hsz := h.hsz
  have hlen := h.hlen
  have hF := h.hF bf rfl
  have hne1 : sc ≠ sr := h.hB.ne h.hR (by decide)
  have hne2 : sc ≠ bf := h.hB.ne hF (by decide)
  have hne3 : sr ≠ bf := h.hR.ne hF (by decide)
  by_cases hd : i < s.size
  · have hyl : ((s.data.toList.drop i).take (L - en)).length = min (L - en) (s.size - i) := by rw [List.length_take, List.length_drop]; rfl
    refine seg5_data hc hE h.hB h.hR hF hne1 hne2 hd hsz hlt (by omega) h.hlen rfl ?_
    intro E' w' hE' hB' hR' hF' hK
    have hdl := data_list (bs := bs) (d := s.data.toList) (st := st) (en := en) (i := i) (m := L - en) (ys := (s.data.toList.drop i).take (L - en)) h.hse (by omega) (by omega) rfl
    have hK' : Keep (Own sc sr (some bf)) w w' := hK.mono fun k _ hk => by
      rcases hk with e | e | e
      · exact .inl e
      · exact .inr (.inl e)
      · exact .inr (.inr (by rw [e]))
    refine hQ E' w' (bs.take en ++ (s.data.toList.drop i).take (L - en) ++ bs.drop (en + ((s.data.toList.drop i).take (L - en)).length)) (en + ((s.data.toList.drop i).take (L - en)).length) (i + ((s.data.toList.drop i).take (L - en)).length) (-1) .nilIface hE' ?_ (.inl ⟨by omega, rfl⟩) hK'
    exact { hB := hB', hR := hR', hF := fun b hb => (by cases hb; exact hF'), hN := fun e => (by cases e), hlen := by rw [hdl.1, hlen], hse := (by omega), hen := (by omega), hL := h.hL, hpos := h.hpos, hi := (by omega), hbuf := by omega,
            hrest := (by rw [hdl.2]; exact h.hrest), herr := .inl rfl, hG := hK'.cell h.hG (h.notOwn4 4 (by omega)), hsz := h.hsz, lo := h.lo }
  · refine seg5_eof hc hE h.hB h.hR h.hG (by omega) hlt (by omega) ?_
    intro E' w' hE' hB' hK
    exact hQ E' w' bs en i pr _ hE' (h.own hK hB' h.hse h.hen h.hbuf h.hrest (.inr ⟨rfl, by omega, by simp⟩)) (.inr ⟨rfl, rfl⟩) (keepSc hK)
end
end Go.Proofs.Qxb6613145aFmt
