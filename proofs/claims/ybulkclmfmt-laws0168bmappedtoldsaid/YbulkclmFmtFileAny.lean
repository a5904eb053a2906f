import Derived.Test.YbulkclmFmtFirst
import Derived.Test.YbulkclmFmtBuild
namespace Go.Proofs.YbulkclmFmt
theorem file_any (a0 a1 : Option Addr) (l0 c0 l1 c1 n : Nat) (Ks Vs : Nat → ByteArray) (w : World) (hn : n ≤ 512) (hK : StrRow w a0 n Ks) (hV : StrRow w a1 n Vs) (h0 : n ≤ l0) (h1 : n ≤ l1) (hpos : posT Ks Vs n ≤ 4000000) (h3 : w.cell? ⟨3, 0, none⟩ = some (.int .u32 33)) :
    Calls Ybaf.prog 6 #[.slice a0 l0 c0, .slice a1 l1 c1, .int .i64 n] w fun e w' => ∃ g cap N B S, e = .returned (.slice (some ⟨g, 0, none⟩) N cap) ∧ Row w' g cap N B ∧ Go.RowKit.Below w.heap.size w w' ∧ w.heap.size ≤ g ∧ FileOK B N n Ks Vs (fun i => hashN (Ks i)) S := by
  refine (file_try a0 a1 l0 c0 l1 c1 n Ks Vs (fun i => hashN (Ks i)) w hn hK hV h0 h1 hpos (fun _ => rfl) h3).mono ?_
  rintro e w' ⟨g, cap, N, B, S, he, hR, hb, hg, hB, h3, hN, hN2⟩
  exact ⟨g, cap, N, B, S, he, hR, hb, hg, hB, h3.recs, h3.hdr, h3.tabs, hN, hN2, hn, fun i _ => (hashN_eq (Ks i)).symm⟩
end Go.Proofs.YbulkclmFmt
