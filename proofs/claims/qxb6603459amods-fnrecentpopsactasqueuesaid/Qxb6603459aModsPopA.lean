/- pop: what lies in memory. Own work. -/
import Derived.Test.Qxb6603459aModsRd
import Derived.Laws.CopyRow
import Derived.Deep.RegionLaw
namespace Go.Proofs.Qxb6603459aMods
open Go.RowKit Go.MapFns
set_option linter.unusedVariables false

/-- the array of ends -/
structure EndsAt (w : World) (eb m ec : Nat) (ef : Nat → Int) : Prop where
  cap : m ≤ ec
  row : ∃ arr, w.heap[eb]? = some (.cells arr 2 (0, 0)) ∧ ∀ i, i < m → arr[i]? = some (.int .i64 (ef i))

/-- the chunks, their slice at whatever offset -/
structure CksAt (w : World) (cv : Value) (L : List Ck) : Prop where
  view : ∃ co cq, cv = .slice co L.length cq ∧ L.length ≤ cq ∧ ∀ i c, L[i]? = some c → ∃ g off arr, co = some ⟨g, off, none⟩ ∧ w.heap[g]? = some (.cells arr 72 (0, 0)) ∧ arr[off + i * 2]? = some (.int .i64 c.at_) ∧ arr[off + i * 2 + 1]? = some (.slice (some ⟨c.blk, 0, none⟩) c.n c.cp)
  bufs : ∀ c ∈ L, BufAt w c

theorem EndsAt.chg {w w' : World} {S : Nat → Prop} {eb m ec : Nat} {ef : Nat → Int} (h : EndsAt w eb m ec ef) (hc : Chg S w w') (hs : ¬ S eb) : EndsAt w' eb m ec ef := by
  obtain ⟨arr, h1, h2⟩ := h.row
  exact ⟨h.cap, arr, hc.blk h1 hs, h2⟩
theorem CksAt.chg {w w' : World} {S : Nat → Prop} {cv : Value} {L : List Ck} (h : CksAt w cv L) (hc : Chg S w w') (hs : ∀ b arr t, S b → w.heap[b]? = some (.cells arr t (0, 0)) → t ≠ 72 ∧ t ≠ 5) : CksAt w' cv L := by
  obtain ⟨co, cq, e, hle, hv⟩ := h.view
  refine ⟨⟨co, cq, e, hle, fun i c hi => ?_⟩, fun c hm => ?_⟩
  · obtain ⟨g, off, arr, e1, hb, c0, c1⟩ := hv i c hi
    exact ⟨g, off, arr, e1, hc.blk hb (fun h => (hs _ _ _ h hb).1 rfl), c0, c1⟩
  · have hb := h.bufs c hm
    refine hb.chg hc ?_
    intro h
    obtain ⟨arr, h1, _⟩ := hb
    exact (hs _ _ _ h h1).2 rfl
theorem RecRep.cks {w : World} {B R : Nat} {F : Fl} {L : List Ck} (h : RecRep w B R F L) : CksAt w F.cv L := by
  refine ⟨?_, fun c hc => (h.bufs c hc).2⟩
  by_cases h0 : 0 < L.length
  · obtain ⟨g, cq, cur, ecv, _, hle, hg, _, _, hcell⟩ := h.at h0
    refine ⟨_, cq, ecv, hle, fun i c hc => ⟨g, 0, cur, rfl, hg, ?_, ?_⟩⟩
    · have := (hcell i c hc).1
      rw [cell_of_row w _ _ _ _ _ hg] at this
      rw [Nat.zero_add]; exact this
    · have := (hcell i c hc).2
      rw [cell_of_row w _ _ _ _ _ hg] at this
      rw [Nat.zero_add]; exact this
  · have hn : L = [] := List.eq_nil_of_length_eq_zero (by omega)
    subst hn
    rcases h.row.2 with ⟨h0, h1⟩ | ⟨g, cq, cur, e, hb, hg, hle, _, hsz, htk⟩
    · exact ⟨_, _, h0, Nat.le_refl _, fun i c hc => by simp at hc⟩
    · exact ⟨_, _, e, Nat.zero_le _, fun i c hc => by simp at hc⟩

/-- the first k chunks end at s or ahead of it, and no more -/
structure Drops (s : Int) (L : List Ck) (k : Nat) : Prop where
  le : k ≤ L.length
  go : ∀ i c, i < k → L[i]? = some c → wrap64 (c.at_ + c.cp) ≤ s
  stop : ∀ c, L[k]? = some c → ¬ wrap64 (c.at_ + c.cp) ≤ s
def capOf (L : List Ck) (i : Nat) : Int := match L[i]? with | some c => c.cp | none => 0

theorem CksAt.drop {w : World} {L : List Ck} {co : Option Addr} {n cq k : Nat} (h : CksAt w (.slice co n cq) L) (hk : k ≤ L.length) : CksAt w (.slice (if cq = k then co else co.map (·.add (k * 2))) (n - k) (cq - k)) (L.drop k) := by
  obtain ⟨co', cq', e, hle, hv⟩ := h.view
  simp only [Value.slice.injEq] at e
  obtain ⟨rfl, rfl, rfl⟩ := e
  refine ⟨⟨_, _, by rw [List.length_drop], by rw [List.length_drop]; omega, fun i c hi => ?_⟩, fun c hm => h.bufs c (List.mem_of_mem_drop hm)⟩
  rw [List.getElem?_drop] at hi
  obtain ⟨g, off, arr, e1, hb, c0, c1⟩ := hv _ c hi
  have hlt : k + i < L.length := by
    rcases Nat.lt_or_ge (k + i) L.length with h | h
    · exact h
    · rw [List.getElem?_eq_none h] at hi; cases hi
  have hne : ¬ cq = k := by omega
  refine ⟨g, off + k * 2, arr, ?_, hb, ?_, ?_⟩
  · rw [if_neg hne, e1]; simp [Addr.add]
  · rw [← c0]; congr 1; omega
  · rw [← c1]; congr 1; omega

theorem step_copy_chg {P : Program} {ops : Array Oper} {o : Oper} {a : Act} {w : World} {K : Act → World → Prop} {Q : Exit → Act → World → Prop} {E : Prop} (hgd : o.guard = none) (d s : Operand) (dT sT : TypeId)
    (ho : o.op = .call { callee := .builtin .copy, args := #[d, s], argTypes := #[dT, sT] }) (elem : TypeId) (hu : P.underlying dT = some (.slice elem)) (hsz : (P.info? elem).map (·.size) = some 1)
    (g off dLen dCap : Nat) (ad : Addr) (sLen sCap : Nat) (hd : a.eval d = .slice (some ⟨g, off, none⟩) dLen dCap) (hs : a.eval s = .slice (some ad) sLen sCap)
    (cur : Array Value) (t : TypeId) (hg : w.heap[g]? = some (.cells cur t (0, 0))) (cs : List Value) (hn : cs.length = Nat.min sLen dLen)
    (hsrc : ∀ j v, cs[j]? = some v → w.cell? (ad.add j) = some v) (hfit : off + cs.length ≤ cur.size) (h1 : ∀ v ∈ cs, v.oneCell' = true)
    (h : ∀ w', Chg (· = g) w w' → w'.heap[g]? = some (.cells (cur.toList.take off ++ cs ++ cur.toList.drop (off + cs.length)).toArray t (0, 0)) → K (a.put o.dst (goInt cs.length)) w') :
    if Region.wanted o (yielded ops a.tmps) = true then Oper.wp P o a w K Q else E := by
  have hw : Region.wanted o (yielded ops a.tmps) = true := by simp [Region.wanted, hgd]
  rw [if_pos hw]
  have hrun := run_copy_row (P := P) w dT sT o.type elem g off dLen dCap ad sLen sCap cur t cs hu hsz hg hn hsrc hfit h1
  unfold Oper.wp
  simp [execOp, ho, resolve, invoke, builtin, hd, hs, hrun, Result.andThen]
  refine h _ ⟨rfl, rfl, rfl, by simp [World.setRow], fun k hk hk2 => setRow_other w g k _ (by omega)⟩ ?_
  rw [List.append_assoc]
  exact setRow_heap w g _ _ t _ hg
end Go.Proofs.Qxb6603459aMods
