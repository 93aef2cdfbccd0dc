/- Sizes and zeros of types, printed. -/
import Derived.Test.YtkjcedlgljeoiaaWk
import Derived.Test.YtkjcedlgljeoiaaProg
namespace Go.Proofs.Ytkjcedlgljeoiaa
theorem tsz1 : (Try.prog.info? 1).map (·.size) = some 1 := by kernel_rfl
theorem tz1 : (Try.prog.info? 1).map (fun i => (i.zero, i.size)) = some (some ((Value.nilFunc)), 1) := by kernel_rfl
theorem tin1 : (Try.prog.info? 1).map (fun i => (i.zero, i.size, i.bytes)) = some (some ((Value.nilFunc)), 1, 8) := by kernel_rfl
theorem tsz2 : (Try.prog.info? 2).map (·.size) = some 1 := by kernel_rfl
theorem tz2 : (Try.prog.info? 2).map (fun i => (i.zero, i.size)) = some (some ((Value.int .i64 0)), 1) := by kernel_rfl
theorem tin2 : (Try.prog.info? 2).map (fun i => (i.zero, i.size, i.bytes)) = some (some ((Value.int .i64 0)), 1, 8) := by kernel_rfl
theorem tsz3 : (Try.prog.info? 3).map (·.size) = some 1 := by kernel_rfl
theorem tz3 : (Try.prog.info? 3).map (fun i => (i.zero, i.size)) = some (some ((Value.int .i64 0)), 1) := by kernel_rfl
theorem tin3 : (Try.prog.info? 3).map (fun i => (i.zero, i.size, i.bytes)) = some (some ((Value.int .i64 0)), 1, 8) := by kernel_rfl
theorem tsz4 : (Try.prog.info? 4).map (·.size) = some 1 := by kernel_rfl
theorem tz4 : (Try.prog.info? 4).map (fun i => (i.zero, i.size)) = some (some ((Value.bool false)), 1) := by kernel_rfl
theorem tin4 : (Try.prog.info? 4).map (fun i => (i.zero, i.size, i.bytes)) = some (some ((Value.bool false)), 1, 1) := by kernel_rfl
theorem tsz5 : (Try.prog.info? 5).map (·.size) = some 1 := by kernel_rfl
theorem tz5 : (Try.prog.info? 5).map (fun i => (i.zero, i.size)) = some (some ((Value.int .u8 0)), 1) := by kernel_rfl
theorem tin5 : (Try.prog.info? 5).map (fun i => (i.zero, i.size, i.bytes)) = some (some ((Value.int .u8 0)), 1, 1) := by kernel_rfl
theorem tsz6 : (Try.prog.info? 6).map (·.size) = some 1 := by kernel_rfl
theorem tz6 : (Try.prog.info? 6).map (fun i => (i.zero, i.size)) = some (some ((Value.int .u8 0)), 1) := by kernel_rfl
theorem tin6 : (Try.prog.info? 6).map (fun i => (i.zero, i.size, i.bytes)) = some (some ((Value.int .u8 0)), 1, 1) := by kernel_rfl
theorem tsz7 : (Try.prog.info? 7).map (·.size) = some 4 := by kernel_rfl
theorem tz7 : (Try.prog.info? 7).map (fun i => (i.zero, i.size)) = some (some ((Value.agg #[.int .i64 0, .int .i64 0, .bool false, .int .u8 0])), 4) := by kernel_rfl
theorem tin7 : (Try.prog.info? 7).map (fun i => (i.zero, i.size, i.bytes)) = some (some ((Value.agg #[.int .i64 0, .int .i64 0, .bool false, .int .u8 0])), 4, 24) := by kernel_rfl
theorem tsz8 : (Try.prog.info? 8).map (·.size) = some 4 := by kernel_rfl
theorem tz8 : (Try.prog.info? 8).map (fun i => (i.zero, i.size)) = some (some ((Value.agg #[.int .i64 0, .int .i64 0, .bool false, .int .u8 0])), 4) := by kernel_rfl
theorem tin8 : (Try.prog.info? 8).map (fun i => (i.zero, i.size, i.bytes)) = some (some ((Value.agg #[.int .i64 0, .int .i64 0, .bool false, .int .u8 0])), 4, 24) := by kernel_rfl
theorem tsz9 : (Try.prog.info? 9).map (·.size) = some 1 := by kernel_rfl
theorem tz9 : (Try.prog.info? 9).map (fun i => (i.zero, i.size)) = some (some ((Value.string ⟨#[]⟩)), 1) := by kernel_rfl
theorem tin9 : (Try.prog.info? 9).map (fun i => (i.zero, i.size, i.bytes)) = some (some ((Value.string ⟨#[]⟩)), 1, 16) := by kernel_rfl
theorem tsz10 : (Try.prog.info? 10).map (·.size) = some 1 := by kernel_rfl
theorem tz10 : (Try.prog.info? 10).map (fun i => (i.zero, i.size)) = some (some ((Value.string ⟨#[]⟩)), 1) := by kernel_rfl
theorem tin10 : (Try.prog.info? 10).map (fun i => (i.zero, i.size, i.bytes)) = some (some ((Value.string ⟨#[]⟩)), 1, 16) := by kernel_rfl
theorem tsz11 : (Try.prog.info? 11).map (·.size) = some 1 := by kernel_rfl
theorem tz11 : (Try.prog.info? 11).map (fun i => (i.zero, i.size)) = some (some ((Value.string ⟨#[]⟩)), 1) := by kernel_rfl
theorem tin11 : (Try.prog.info? 11).map (fun i => (i.zero, i.size, i.bytes)) = some (some ((Value.string ⟨#[]⟩)), 1, 16) := by kernel_rfl
theorem tsz12 : (Try.prog.info? 12).map (·.size) = some 1 := by kernel_rfl
theorem tz12 : (Try.prog.info? 12).map (fun i => (i.zero, i.size)) = some (some ((Value.int .u64 0)), 1) := by kernel_rfl
theorem tin12 : (Try.prog.info? 12).map (fun i => (i.zero, i.size, i.bytes)) = some (some ((Value.int .u64 0)), 1, 8) := by kernel_rfl
theorem tsz13 : (Try.prog.info? 13).map (·.size) = some 2 := by kernel_rfl
theorem tz13 : (Try.prog.info? 13).map (fun i => (i.zero, i.size)) = some (some ((Value.agg #[.string ⟨#[]⟩, .int .u64 0])), 2) := by kernel_rfl
theorem tin13 : (Try.prog.info? 13).map (fun i => (i.zero, i.size, i.bytes)) = some (some ((Value.agg #[.string ⟨#[]⟩, .int .u64 0])), 2, 24) := by kernel_rfl
theorem tsz14 : (Try.prog.info? 14).map (·.size) = some 2 := by kernel_rfl
theorem tz14 : (Try.prog.info? 14).map (fun i => (i.zero, i.size)) = some (some ((Value.agg #[.string ⟨#[]⟩, .int .u64 0])), 2) := by kernel_rfl
theorem tin14 : (Try.prog.info? 14).map (fun i => (i.zero, i.size, i.bytes)) = some (some ((Value.agg #[.string ⟨#[]⟩, .int .u64 0])), 2, 24) := by kernel_rfl
theorem tsz15 : (Try.prog.info? 15).map (·.size) = some 1 := by kernel_rfl
theorem tz15 : (Try.prog.info? 15).map (fun i => (i.zero, i.size)) = some (some ((Value.pointer none)), 1) := by kernel_rfl
theorem tin15 : (Try.prog.info? 15).map (fun i => (i.zero, i.size, i.bytes)) = some (some ((Value.pointer none)), 1, 8) := by kernel_rfl
theorem tsz16 : (Try.prog.info? 16).map (·.size) = some 1 := by kernel_rfl
theorem tz16 : (Try.prog.info? 16).map (fun i => (i.zero, i.size)) = some (some ((Value.pointer none)), 1) := by kernel_rfl
theorem tin16 : (Try.prog.info? 16).map (fun i => (i.zero, i.size, i.bytes)) = some (some ((Value.pointer none)), 1, 8) := by kernel_rfl
theorem tsz17 : (Try.prog.info? 17).map (·.size) = some 1 := by kernel_rfl
theorem tz17 : (Try.prog.info? 17).map (fun i => (i.zero, i.size)) = some (some ((Value.pointer none)), 1) := by kernel_rfl
theorem tin17 : (Try.prog.info? 17).map (fun i => (i.zero, i.size, i.bytes)) = some (some ((Value.pointer none)), 1, 8) := by kernel_rfl
theorem tsz18 : (Try.prog.info? 18).map (·.size) = some 1 := by kernel_rfl
theorem tz18 : (Try.prog.info? 18).map (fun i => (i.zero, i.size)) = some (some ((Value.agg #[.pointer none])), 1) := by kernel_rfl
theorem tin18 : (Try.prog.info? 18).map (fun i => (i.zero, i.size, i.bytes)) = some (some ((Value.agg #[.pointer none])), 1, 8) := by kernel_rfl
theorem tsz19 : (Try.prog.info? 19).map (·.size) = some 1 := by kernel_rfl
theorem tz19 : (Try.prog.info? 19).map (fun i => (i.zero, i.size)) = some (some ((Value.agg #[.pointer none])), 1) := by kernel_rfl
theorem tin19 : (Try.prog.info? 19).map (fun i => (i.zero, i.size, i.bytes)) = some (some ((Value.agg #[.pointer none])), 1, 8) := by kernel_rfl
theorem tsz20 : (Try.prog.info? 20).map (·.size) = some 1 := by kernel_rfl
theorem tz20 : (Try.prog.info? 20).map (fun i => (i.zero, i.size)) = some (some ((Value.nilIface)), 1) := by kernel_rfl
theorem tin20 : (Try.prog.info? 20).map (fun i => (i.zero, i.size, i.bytes)) = some (some ((Value.nilIface)), 1, 16) := by kernel_rfl
theorem tsz21 : (Try.prog.info? 21).map (·.size) = some 1 := by kernel_rfl
theorem tz21 : (Try.prog.info? 21).map (fun i => (i.zero, i.size)) = some (some ((Value.int .i32 0)), 1) := by kernel_rfl
theorem tin21 : (Try.prog.info? 21).map (fun i => (i.zero, i.size, i.bytes)) = some (some ((Value.int .i32 0)), 1, 4) := by kernel_rfl
theorem tsz22 : (Try.prog.info? 22).map (·.size) = some 1 := by kernel_rfl
theorem tz22 : (Try.prog.info? 22).map (fun i => (i.zero, i.size)) = some (some ((Value.slice none 0 0)), 1) := by kernel_rfl
theorem tin22 : (Try.prog.info? 22).map (fun i => (i.zero, i.size, i.bytes)) = some (some ((Value.slice none 0 0)), 1, 24) := by kernel_rfl
theorem tsz23 : (Try.prog.info? 23).map (·.size) = some 1 := by kernel_rfl
theorem tz23 : (Try.prog.info? 23).map (fun i => (i.zero, i.size)) = some (some ((Value.slice none 0 0)), 1) := by kernel_rfl
theorem tin23 : (Try.prog.info? 23).map (fun i => (i.zero, i.size, i.bytes)) = some (some ((Value.slice none 0 0)), 1, 24) := by kernel_rfl
theorem tsz24 : (Try.prog.info? 24).map (·.size) = some 1 := by kernel_rfl
theorem tz24 : (Try.prog.info? 24).map (fun i => (i.zero, i.size)) = some (some ((Value.slice none 0 0)), 1) := by kernel_rfl
theorem tin24 : (Try.prog.info? 24).map (fun i => (i.zero, i.size, i.bytes)) = some (some ((Value.slice none 0 0)), 1, 24) := by kernel_rfl
theorem tsz25 : (Try.prog.info? 25).map (·.size) = some 15 := by kernel_rfl
theorem tz25 : (Try.prog.info? 25).map (fun i => (i.zero, i.size)) = some (some ((Value.agg #[.string ⟨#[]⟩, .string ⟨#[]⟩, .string ⟨#[]⟩, .string ⟨#[]⟩, .string ⟨#[]⟩, .string ⟨#[]⟩, .string ⟨#[]⟩, .string ⟨#[]⟩, .string ⟨#[]⟩, .string ⟨#[]⟩, .string ⟨#[]⟩, .slice none 0 0, .slice none 0 0, .slice none 0 0, .slice none 0 0])), 15) := by kernel_rfl
theorem tin25 : (Try.prog.info? 25).map (fun i => (i.zero, i.size, i.bytes)) = some (some ((Value.agg #[.string ⟨#[]⟩, .string ⟨#[]⟩, .string ⟨#[]⟩, .string ⟨#[]⟩, .string ⟨#[]⟩, .string ⟨#[]⟩, .string ⟨#[]⟩, .string ⟨#[]⟩, .string ⟨#[]⟩, .string ⟨#[]⟩, .string ⟨#[]⟩, .slice none 0 0, .slice none 0 0, .slice none 0 0, .slice none 0 0])), 15, 272) := by kernel_rfl
theorem tsz26 : (Try.prog.info? 26).map (·.size) = some 15 := by kernel_rfl
theorem tz26 : (Try.prog.info? 26).map (fun i => (i.zero, i.size)) = some (some ((Value.agg #[.string ⟨#[]⟩, .string ⟨#[]⟩, .string ⟨#[]⟩, .string ⟨#[]⟩, .string ⟨#[]⟩, .string ⟨#[]⟩, .string ⟨#[]⟩, .string ⟨#[]⟩, .string ⟨#[]⟩, .string ⟨#[]⟩, .string ⟨#[]⟩, .slice none 0 0, .slice none 0 0, .slice none 0 0, .slice none 0 0])), 15) := by kernel_rfl
theorem tin26 : (Try.prog.info? 26).map (fun i => (i.zero, i.size, i.bytes)) = some (some ((Value.agg #[.string ⟨#[]⟩, .string ⟨#[]⟩, .string ⟨#[]⟩, .string ⟨#[]⟩, .string ⟨#[]⟩, .string ⟨#[]⟩, .string ⟨#[]⟩, .string ⟨#[]⟩, .string ⟨#[]⟩, .string ⟨#[]⟩, .string ⟨#[]⟩, .slice none 0 0, .slice none 0 0, .slice none 0 0, .slice none 0 0])), 15, 272) := by kernel_rfl
theorem tsz27 : (Try.prog.info? 27).map (·.size) = some 1 := by kernel_rfl
theorem tz27 : (Try.prog.info? 27).map (fun i => (i.zero, i.size)) = some (some ((Value.slice none 0 0)), 1) := by kernel_rfl
theorem tin27 : (Try.prog.info? 27).map (fun i => (i.zero, i.size, i.bytes)) = some (some ((Value.slice none 0 0)), 1, 24) := by kernel_rfl
theorem tsz28 : (Try.prog.info? 28).map (·.size) = some 1 := by kernel_rfl
theorem tz28 : (Try.prog.info? 28).map (fun i => (i.zero, i.size)) = some (some ((Value.slice none 0 0)), 1) := by kernel_rfl
theorem tin28 : (Try.prog.info? 28).map (fun i => (i.zero, i.size, i.bytes)) = some (some ((Value.slice none 0 0)), 1, 24) := by kernel_rfl
theorem tsz29 : (Try.prog.info? 29).map (·.size) = some 18 := by kernel_rfl
theorem tz29 : (Try.prog.info? 29).map (fun i => (i.zero, i.size)) = some (some ((Value.agg #[.bool false, .string ⟨#[]⟩, .string ⟨#[]⟩, .string ⟨#[]⟩, .string ⟨#[]⟩, .string ⟨#[]⟩, .string ⟨#[]⟩, .string ⟨#[]⟩, .string ⟨#[]⟩, .string ⟨#[]⟩, .string ⟨#[]⟩, .string ⟨#[]⟩, .slice none 0 0, .slice none 0 0, .slice none 0 0, .slice none 0 0, .slice none 0 0, .slice none 0 0])), 18) := by kernel_rfl
theorem tin29 : (Try.prog.info? 29).map (fun i => (i.zero, i.size, i.bytes)) = some (some ((Value.agg #[.bool false, .string ⟨#[]⟩, .string ⟨#[]⟩, .string ⟨#[]⟩, .string ⟨#[]⟩, .string ⟨#[]⟩, .string ⟨#[]⟩, .string ⟨#[]⟩, .string ⟨#[]⟩, .string ⟨#[]⟩, .string ⟨#[]⟩, .string ⟨#[]⟩, .slice none 0 0, .slice none 0 0, .slice none 0 0, .slice none 0 0, .slice none 0 0, .slice none 0 0])), 18, 328) := by kernel_rfl
theorem tsz30 : (Try.prog.info? 30).map (·.size) = some 18 := by kernel_rfl
theorem tz30 : (Try.prog.info? 30).map (fun i => (i.zero, i.size)) = some (some ((Value.agg #[.bool false, .string ⟨#[]⟩, .string ⟨#[]⟩, .string ⟨#[]⟩, .string ⟨#[]⟩, .string ⟨#[]⟩, .string ⟨#[]⟩, .string ⟨#[]⟩, .string ⟨#[]⟩, .string ⟨#[]⟩, .string ⟨#[]⟩, .string ⟨#[]⟩, .slice none 0 0, .slice none 0 0, .slice none 0 0, .slice none 0 0, .slice none 0 0, .slice none 0 0])), 18) := by kernel_rfl
theorem tin30 : (Try.prog.info? 30).map (fun i => (i.zero, i.size, i.bytes)) = some (some ((Value.agg #[.bool false, .string ⟨#[]⟩, .string ⟨#[]⟩, .string ⟨#[]⟩, .string ⟨#[]⟩, .string ⟨#[]⟩, .string ⟨#[]⟩, .string ⟨#[]⟩, .string ⟨#[]⟩, .string ⟨#[]⟩, .string ⟨#[]⟩, .string ⟨#[]⟩, .slice none 0 0, .slice none 0 0, .slice none 0 0, .slice none 0 0, .slice none 0 0, .slice none 0 0])), 18, 328) := by kernel_rfl
theorem tsz31 : (Try.prog.info? 31).map (·.size) = some 1 := by kernel_rfl
theorem tz31 : (Try.prog.info? 31).map (fun i => (i.zero, i.size)) = some (some ((Value.nilFunc)), 1) := by kernel_rfl
theorem tin31 : (Try.prog.info? 31).map (fun i => (i.zero, i.size, i.bytes)) = some (some ((Value.nilFunc)), 1, 8) := by kernel_rfl
theorem tsz32 : (Try.prog.info? 32).map (·.size) = some 1 := by kernel_rfl
theorem tz32 : (Try.prog.info? 32).map (fun i => (i.zero, i.size)) = some (some ((Value.nilFunc)), 1) := by kernel_rfl
theorem tin32 : (Try.prog.info? 32).map (fun i => (i.zero, i.size, i.bytes)) = some (some ((Value.nilFunc)), 1, 8) := by kernel_rfl
theorem tsz33 : (Try.prog.info? 33).map (·.size) = some 1 := by kernel_rfl
theorem tz33 : (Try.prog.info? 33).map (fun i => (i.zero, i.size)) = some (some ((Value.pointer none)), 1) := by kernel_rfl
theorem tin33 : (Try.prog.info? 33).map (fun i => (i.zero, i.size, i.bytes)) = some (some ((Value.pointer none)), 1, 8) := by kernel_rfl
theorem tsz34 : (Try.prog.info? 34).map (·.size) = some 1 := by kernel_rfl
theorem tz34 : (Try.prog.info? 34).map (fun i => (i.zero, i.size)) = some (some ((Value.slice none 0 0)), 1) := by kernel_rfl
theorem tin34 : (Try.prog.info? 34).map (fun i => (i.zero, i.size, i.bytes)) = some (some ((Value.slice none 0 0)), 1, 24) := by kernel_rfl
theorem tsz36 : (Try.prog.info? 36).map (·.size) = some 1 := by kernel_rfl
theorem tz36 : (Try.prog.info? 36).map (fun i => (i.zero, i.size)) = some (some ((Value.nilFunc)), 1) := by kernel_rfl
theorem tin36 : (Try.prog.info? 36).map (fun i => (i.zero, i.size, i.bytes)) = some (some ((Value.nilFunc)), 1, 8) := by kernel_rfl
theorem tsz37 : (Try.prog.info? 37).map (·.size) = some 1 := by kernel_rfl
theorem tz37 : (Try.prog.info? 37).map (fun i => (i.zero, i.size)) = some (some ((Value.nilFunc)), 1) := by kernel_rfl
theorem tin37 : (Try.prog.info? 37).map (fun i => (i.zero, i.size, i.bytes)) = some (some ((Value.nilFunc)), 1, 8) := by kernel_rfl
theorem tsz38 : (Try.prog.info? 38).map (·.size) = some 5 := by kernel_rfl
theorem tz38 : (Try.prog.info? 38).map (fun i => (i.zero, i.size)) = some (some ((Value.agg #[.string ⟨#[]⟩, .string ⟨#[]⟩, .string ⟨#[]⟩, .bool false, .string ⟨#[]⟩])), 5) := by kernel_rfl
theorem tin38 : (Try.prog.info? 38).map (fun i => (i.zero, i.size, i.bytes)) = some (some ((Value.agg #[.string ⟨#[]⟩, .string ⟨#[]⟩, .string ⟨#[]⟩, .bool false, .string ⟨#[]⟩])), 5, 72) := by kernel_rfl
theorem tsz39 : (Try.prog.info? 39).map (·.size) = some 5 := by kernel_rfl
theorem tz39 : (Try.prog.info? 39).map (fun i => (i.zero, i.size)) = some (some ((Value.agg #[.string ⟨#[]⟩, .string ⟨#[]⟩, .string ⟨#[]⟩, .bool false, .string ⟨#[]⟩])), 5) := by kernel_rfl
theorem tin39 : (Try.prog.info? 39).map (fun i => (i.zero, i.size, i.bytes)) = some (some ((Value.agg #[.string ⟨#[]⟩, .string ⟨#[]⟩, .string ⟨#[]⟩, .bool false, .string ⟨#[]⟩])), 5, 72) := by kernel_rfl
theorem tsz40 : (Try.prog.info? 40).map (·.size) = some 1 := by kernel_rfl
theorem tz40 : (Try.prog.info? 40).map (fun i => (i.zero, i.size)) = some (some ((Value.slice none 0 0)), 1) := by kernel_rfl
theorem tin40 : (Try.prog.info? 40).map (fun i => (i.zero, i.size, i.bytes)) = some (some ((Value.slice none 0 0)), 1, 24) := by kernel_rfl
theorem tsz41 : (Try.prog.info? 41).map (·.size) = some 1 := by kernel_rfl
theorem tz41 : (Try.prog.info? 41).map (fun i => (i.zero, i.size)) = some (some ((Value.nilFunc)), 1) := by kernel_rfl
theorem tin41 : (Try.prog.info? 41).map (fun i => (i.zero, i.size, i.bytes)) = some (some ((Value.nilFunc)), 1, 8) := by kernel_rfl
theorem tsz42 : (Try.prog.info? 42).map (·.size) = some 1 := by kernel_rfl
theorem tz42 : (Try.prog.info? 42).map (fun i => (i.zero, i.size)) = some (some ((Value.nilFunc)), 1) := by kernel_rfl
theorem tin42 : (Try.prog.info? 42).map (fun i => (i.zero, i.size, i.bytes)) = some (some ((Value.nilFunc)), 1, 8) := by kernel_rfl
theorem tsz43 : (Try.prog.info? 43).map (·.size) = some 1 := by kernel_rfl
theorem tz43 : (Try.prog.info? 43).map (fun i => (i.zero, i.size)) = some (some ((Value.nilFunc)), 1) := by kernel_rfl
theorem tin43 : (Try.prog.info? 43).map (fun i => (i.zero, i.size, i.bytes)) = some (some ((Value.nilFunc)), 1, 8) := by kernel_rfl
theorem tsz44 : (Try.prog.info? 44).map (·.size) = some 1 := by kernel_rfl
theorem tz44 : (Try.prog.info? 44).map (fun i => (i.zero, i.size)) = some (some ((Value.nilFunc)), 1) := by kernel_rfl
theorem tin44 : (Try.prog.info? 44).map (fun i => (i.zero, i.size, i.bytes)) = some (some ((Value.nilFunc)), 1, 8) := by kernel_rfl
theorem tsz45 : (Try.prog.info? 45).map (·.size) = some 1 := by kernel_rfl
theorem tz45 : (Try.prog.info? 45).map (fun i => (i.zero, i.size)) = some (some ((Value.nilFunc)), 1) := by kernel_rfl
theorem tin45 : (Try.prog.info? 45).map (fun i => (i.zero, i.size, i.bytes)) = some (some ((Value.nilFunc)), 1, 8) := by kernel_rfl
theorem tsz46 : (Try.prog.info? 46).map (·.size) = some 1 := by kernel_rfl
theorem tz46 : (Try.prog.info? 46).map (fun i => (i.zero, i.size)) = some (some ((Value.slice none 0 0)), 1) := by kernel_rfl
theorem tin46 : (Try.prog.info? 46).map (fun i => (i.zero, i.size, i.bytes)) = some (some ((Value.slice none 0 0)), 1, 24) := by kernel_rfl
theorem tsz47 : (Try.prog.info? 47).map (·.size) = some 1 := by kernel_rfl
theorem tz47 : (Try.prog.info? 47).map (fun i => (i.zero, i.size)) = some (some ((Value.nilFunc)), 1) := by kernel_rfl
theorem tin47 : (Try.prog.info? 47).map (fun i => (i.zero, i.size, i.bytes)) = some (some ((Value.nilFunc)), 1, 8) := by kernel_rfl
theorem tsz48 : (Try.prog.info? 48).map (·.size) = some 1 := by kernel_rfl
theorem tz48 : (Try.prog.info? 48).map (fun i => (i.zero, i.size)) = some (some ((Value.slice none 0 0)), 1) := by kernel_rfl
theorem tin48 : (Try.prog.info? 48).map (fun i => (i.zero, i.size, i.bytes)) = some (some ((Value.slice none 0 0)), 1, 24) := by kernel_rfl
theorem tsz49 : (Try.prog.info? 49).map (·.size) = some 3 := by kernel_rfl
theorem tz49 : (Try.prog.info? 49).map (fun i => (i.zero, i.size)) = some (some ((Value.agg #[.int .i64 0, .slice none 0 0, .string ⟨#[]⟩])), 3) := by kernel_rfl
theorem tin49 : (Try.prog.info? 49).map (fun i => (i.zero, i.size, i.bytes)) = some (some ((Value.agg #[.int .i64 0, .slice none 0 0, .string ⟨#[]⟩])), 3, 48) := by kernel_rfl
theorem tsz50 : (Try.prog.info? 50).map (·.size) = some 3 := by kernel_rfl
theorem tz50 : (Try.prog.info? 50).map (fun i => (i.zero, i.size)) = some (some ((Value.agg #[.int .i64 0, .slice none 0 0, .string ⟨#[]⟩])), 3) := by kernel_rfl
theorem tin50 : (Try.prog.info? 50).map (fun i => (i.zero, i.size, i.bytes)) = some (some ((Value.agg #[.int .i64 0, .slice none 0 0, .string ⟨#[]⟩])), 3, 48) := by kernel_rfl
theorem tsz51 : (Try.prog.info? 51).map (·.size) = some 2 := by kernel_rfl
theorem tz51 : (Try.prog.info? 51).map (fun i => (i.zero, i.size)) = some (some ((Value.agg #[.string ⟨#[]⟩, .string ⟨#[]⟩])), 2) := by kernel_rfl
theorem tin51 : (Try.prog.info? 51).map (fun i => (i.zero, i.size, i.bytes)) = some (some ((Value.agg #[.string ⟨#[]⟩, .string ⟨#[]⟩])), 2, 32) := by kernel_rfl
theorem tsz52 : (Try.prog.info? 52).map (·.size) = some 2 := by kernel_rfl
theorem tz52 : (Try.prog.info? 52).map (fun i => (i.zero, i.size)) = some (some ((Value.agg #[.string ⟨#[]⟩, .string ⟨#[]⟩])), 2) := by kernel_rfl
theorem tin52 : (Try.prog.info? 52).map (fun i => (i.zero, i.size, i.bytes)) = some (some ((Value.agg #[.string ⟨#[]⟩, .string ⟨#[]⟩])), 2, 32) := by kernel_rfl
theorem tsz53 : (Try.prog.info? 53).map (·.size) = some 1 := by kernel_rfl
theorem tz53 : (Try.prog.info? 53).map (fun i => (i.zero, i.size)) = some (some ((Value.slice none 0 0)), 1) := by kernel_rfl
theorem tin53 : (Try.prog.info? 53).map (fun i => (i.zero, i.size, i.bytes)) = some (some ((Value.slice none 0 0)), 1, 24) := by kernel_rfl
theorem tsz55 : (Try.prog.info? 55).map (·.size) = some 1 := by kernel_rfl
theorem tz55 : (Try.prog.info? 55).map (fun i => (i.zero, i.size)) = some (some ((Value.nilFunc)), 1) := by kernel_rfl
theorem tin55 : (Try.prog.info? 55).map (fun i => (i.zero, i.size, i.bytes)) = some (some ((Value.nilFunc)), 1, 8) := by kernel_rfl
theorem tsz56 : (Try.prog.info? 56).map (·.size) = some 1 := by kernel_rfl
theorem tz56 : (Try.prog.info? 56).map (fun i => (i.zero, i.size)) = some (some ((Value.nilFunc)), 1) := by kernel_rfl
theorem tin56 : (Try.prog.info? 56).map (fun i => (i.zero, i.size, i.bytes)) = some (some ((Value.nilFunc)), 1, 8) := by kernel_rfl
theorem tsz57 : (Try.prog.info? 57).map (·.size) = some 2 := by kernel_rfl
theorem tz57 : (Try.prog.info? 57).map (fun i => (i.zero, i.size)) = some (some ((Value.agg #[.bool false, .slice none 0 0])), 2) := by kernel_rfl
theorem tin57 : (Try.prog.info? 57).map (fun i => (i.zero, i.size, i.bytes)) = some (some ((Value.agg #[.bool false, .slice none 0 0])), 2, 32) := by kernel_rfl
theorem tsz58 : (Try.prog.info? 58).map (·.size) = some 2 := by kernel_rfl
theorem tz58 : (Try.prog.info? 58).map (fun i => (i.zero, i.size)) = some (some ((Value.agg #[.bool false, .slice none 0 0])), 2) := by kernel_rfl
theorem tin58 : (Try.prog.info? 58).map (fun i => (i.zero, i.size, i.bytes)) = some (some ((Value.agg #[.bool false, .slice none 0 0])), 2, 32) := by kernel_rfl
theorem tsz59 : (Try.prog.info? 59).map (·.size) = some 1 := by kernel_rfl
theorem tz59 : (Try.prog.info? 59).map (fun i => (i.zero, i.size)) = some (some ((Value.nilFunc)), 1) := by kernel_rfl
theorem tin59 : (Try.prog.info? 59).map (fun i => (i.zero, i.size, i.bytes)) = some (some ((Value.nilFunc)), 1, 8) := by kernel_rfl
theorem tsz60 : (Try.prog.info? 60).map (·.size) = some 1 := by kernel_rfl
theorem tz60 : (Try.prog.info? 60).map (fun i => (i.zero, i.size)) = some (some ((Value.nilFunc)), 1) := by kernel_rfl
theorem tin60 : (Try.prog.info? 60).map (fun i => (i.zero, i.size, i.bytes)) = some (some ((Value.nilFunc)), 1, 8) := by kernel_rfl
theorem tsz62 : (Try.prog.info? 62).map (·.size) = some 1 := by kernel_rfl
theorem tz62 : (Try.prog.info? 62).map (fun i => (i.zero, i.size)) = some (some ((Value.nilFunc)), 1) := by kernel_rfl
theorem tin62 : (Try.prog.info? 62).map (fun i => (i.zero, i.size, i.bytes)) = some (some ((Value.nilFunc)), 1, 8) := by kernel_rfl
theorem tsz63 : (Try.prog.info? 63).map (·.size) = some 1 := by kernel_rfl
theorem tz63 : (Try.prog.info? 63).map (fun i => (i.zero, i.size)) = some (some ((Value.nilFunc)), 1) := by kernel_rfl
theorem tin63 : (Try.prog.info? 63).map (fun i => (i.zero, i.size, i.bytes)) = some (some ((Value.nilFunc)), 1, 8) := by kernel_rfl
theorem tsz64 : (Try.prog.info? 64).map (·.size) = some 1 := by kernel_rfl
theorem tz64 : (Try.prog.info? 64).map (fun i => (i.zero, i.size)) = some (some ((Value.nilFunc)), 1) := by kernel_rfl
theorem tin64 : (Try.prog.info? 64).map (fun i => (i.zero, i.size, i.bytes)) = some (some ((Value.nilFunc)), 1, 8) := by kernel_rfl
theorem tsz65 : (Try.prog.info? 65).map (·.size) = some 1 := by kernel_rfl
theorem tz65 : (Try.prog.info? 65).map (fun i => (i.zero, i.size)) = some (some ((Value.slice none 0 0)), 1) := by kernel_rfl
theorem tin65 : (Try.prog.info? 65).map (fun i => (i.zero, i.size, i.bytes)) = some (some ((Value.slice none 0 0)), 1, 24) := by kernel_rfl
theorem tsz66 : (Try.prog.info? 66).map (·.size) = some 1 := by kernel_rfl
theorem tz66 : (Try.prog.info? 66).map (fun i => (i.zero, i.size)) = some (some ((Value.nilFunc)), 1) := by kernel_rfl
theorem tin66 : (Try.prog.info? 66).map (fun i => (i.zero, i.size, i.bytes)) = some (some ((Value.nilFunc)), 1, 8) := by kernel_rfl
theorem tsz67 : (Try.prog.info? 67).map (·.size) = some 1 := by kernel_rfl
theorem tz67 : (Try.prog.info? 67).map (fun i => (i.zero, i.size)) = some (some ((Value.nilFunc)), 1) := by kernel_rfl
theorem tin67 : (Try.prog.info? 67).map (fun i => (i.zero, i.size, i.bytes)) = some (some ((Value.nilFunc)), 1, 8) := by kernel_rfl
theorem tsz68 : (Try.prog.info? 68).map (·.size) = some 19 := by kernel_rfl
theorem tz68 : (Try.prog.info? 68).map (fun i => (i.zero, i.size)) = some (some ((Value.agg #[.bool false, .bool false, .string ⟨#[]⟩, .string ⟨#[]⟩, .string ⟨#[]⟩, .string ⟨#[]⟩, .string ⟨#[]⟩, .string ⟨#[]⟩, .string ⟨#[]⟩, .string ⟨#[]⟩, .string ⟨#[]⟩, .string ⟨#[]⟩, .string ⟨#[]⟩, .slice none 0 0, .slice none 0 0, .slice none 0 0, .slice none 0 0, .slice none 0 0, .string ⟨#[]⟩])), 19) := by kernel_rfl
theorem tin68 : (Try.prog.info? 68).map (fun i => (i.zero, i.size, i.bytes)) = some (some ((Value.agg #[.bool false, .bool false, .string ⟨#[]⟩, .string ⟨#[]⟩, .string ⟨#[]⟩, .string ⟨#[]⟩, .string ⟨#[]⟩, .string ⟨#[]⟩, .string ⟨#[]⟩, .string ⟨#[]⟩, .string ⟨#[]⟩, .string ⟨#[]⟩, .string ⟨#[]⟩, .slice none 0 0, .slice none 0 0, .slice none 0 0, .slice none 0 0, .slice none 0 0, .string ⟨#[]⟩])), 19, 320) := by kernel_rfl
theorem tsz69 : (Try.prog.info? 69).map (·.size) = some 19 := by kernel_rfl
theorem tz69 : (Try.prog.info? 69).map (fun i => (i.zero, i.size)) = some (some ((Value.agg #[.bool false, .bool false, .string ⟨#[]⟩, .string ⟨#[]⟩, .string ⟨#[]⟩, .string ⟨#[]⟩, .string ⟨#[]⟩, .string ⟨#[]⟩, .string ⟨#[]⟩, .string ⟨#[]⟩, .string ⟨#[]⟩, .string ⟨#[]⟩, .string ⟨#[]⟩, .slice none 0 0, .slice none 0 0, .slice none 0 0, .slice none 0 0, .slice none 0 0, .string ⟨#[]⟩])), 19) := by kernel_rfl
theorem tin69 : (Try.prog.info? 69).map (fun i => (i.zero, i.size, i.bytes)) = some (some ((Value.agg #[.bool false, .bool false, .string ⟨#[]⟩, .string ⟨#[]⟩, .string ⟨#[]⟩, .string ⟨#[]⟩, .string ⟨#[]⟩, .string ⟨#[]⟩, .string ⟨#[]⟩, .string ⟨#[]⟩, .string ⟨#[]⟩, .string ⟨#[]⟩, .string ⟨#[]⟩, .slice none 0 0, .slice none 0 0, .slice none 0 0, .slice none 0 0, .slice none 0 0, .string ⟨#[]⟩])), 19, 320) := by kernel_rfl
theorem tsz70 : (Try.prog.info? 70).map (·.size) = some 1 := by kernel_rfl
theorem tz70 : (Try.prog.info? 70).map (fun i => (i.zero, i.size)) = some (some ((Value.nilFunc)), 1) := by kernel_rfl
theorem tin70 : (Try.prog.info? 70).map (fun i => (i.zero, i.size, i.bytes)) = some (some ((Value.nilFunc)), 1, 8) := by kernel_rfl
theorem tsz72 : (Try.prog.info? 72).map (·.size) = some 1 := by kernel_rfl
theorem tz72 : (Try.prog.info? 72).map (fun i => (i.zero, i.size)) = some (some ((Value.nilFunc)), 1) := by kernel_rfl
theorem tin72 : (Try.prog.info? 72).map (fun i => (i.zero, i.size, i.bytes)) = some (some ((Value.nilFunc)), 1, 8) := by kernel_rfl
theorem tsz73 : (Try.prog.info? 73).map (·.size) = some 1 := by kernel_rfl
theorem tz73 : (Try.prog.info? 73).map (fun i => (i.zero, i.size)) = some (some ((Value.nilFunc)), 1) := by kernel_rfl
theorem tin73 : (Try.prog.info? 73).map (fun i => (i.zero, i.size, i.bytes)) = some (some ((Value.nilFunc)), 1, 8) := by kernel_rfl
theorem tsz74 : (Try.prog.info? 74).map (·.size) = some 1 := by kernel_rfl
theorem tz74 : (Try.prog.info? 74).map (fun i => (i.zero, i.size)) = some (some ((Value.nilFunc)), 1) := by kernel_rfl
theorem tin74 : (Try.prog.info? 74).map (fun i => (i.zero, i.size, i.bytes)) = some (some ((Value.nilFunc)), 1, 8) := by kernel_rfl
theorem tsz75 : (Try.prog.info? 75).map (·.size) = some 1 := by kernel_rfl
theorem tz75 : (Try.prog.info? 75).map (fun i => (i.zero, i.size)) = some (some ((Value.nilFunc)), 1) := by kernel_rfl
theorem tin75 : (Try.prog.info? 75).map (fun i => (i.zero, i.size, i.bytes)) = some (some ((Value.nilFunc)), 1, 8) := by kernel_rfl
theorem tsz76 : (Try.prog.info? 76).map (·.size) = some 1 := by kernel_rfl
theorem tz76 : (Try.prog.info? 76).map (fun i => (i.zero, i.size)) = some (some ((Value.nilFunc)), 1) := by kernel_rfl
theorem tin76 : (Try.prog.info? 76).map (fun i => (i.zero, i.size, i.bytes)) = some (some ((Value.nilFunc)), 1, 8) := by kernel_rfl
theorem tsz77 : (Try.prog.info? 77).map (·.size) = some 4 := by kernel_rfl
theorem tz77 : (Try.prog.info? 77).map (fun i => (i.zero, i.size)) = some (some ((Value.agg #[.bool false, .string ⟨#[]⟩, .string ⟨#[]⟩, .string ⟨#[]⟩])), 4) := by kernel_rfl
theorem tin77 : (Try.prog.info? 77).map (fun i => (i.zero, i.size, i.bytes)) = some (some ((Value.agg #[.bool false, .string ⟨#[]⟩, .string ⟨#[]⟩, .string ⟨#[]⟩])), 4, 56) := by kernel_rfl
theorem tsz78 : (Try.prog.info? 78).map (·.size) = some 4 := by kernel_rfl
theorem tz78 : (Try.prog.info? 78).map (fun i => (i.zero, i.size)) = some (some ((Value.agg #[.bool false, .string ⟨#[]⟩, .string ⟨#[]⟩, .string ⟨#[]⟩])), 4) := by kernel_rfl
theorem tin78 : (Try.prog.info? 78).map (fun i => (i.zero, i.size, i.bytes)) = some (some ((Value.agg #[.bool false, .string ⟨#[]⟩, .string ⟨#[]⟩, .string ⟨#[]⟩])), 4, 56) := by kernel_rfl
theorem tsz79 : (Try.prog.info? 79).map (·.size) = some 7 := by kernel_rfl
theorem tz79 : (Try.prog.info? 79).map (fun i => (i.zero, i.size)) = some (some ((Value.agg #[.bool false, .string ⟨#[]⟩, .string ⟨#[]⟩, .string ⟨#[]⟩, .string ⟨#[]⟩, .slice none 0 0, .string ⟨#[]⟩])), 7) := by kernel_rfl
theorem tin79 : (Try.prog.info? 79).map (fun i => (i.zero, i.size, i.bytes)) = some (some ((Value.agg #[.bool false, .string ⟨#[]⟩, .string ⟨#[]⟩, .string ⟨#[]⟩, .string ⟨#[]⟩, .slice none 0 0, .string ⟨#[]⟩])), 7, 112) := by kernel_rfl
theorem tsz80 : (Try.prog.info? 80).map (·.size) = some 7 := by kernel_rfl
theorem tz80 : (Try.prog.info? 80).map (fun i => (i.zero, i.size)) = some (some ((Value.agg #[.bool false, .string ⟨#[]⟩, .string ⟨#[]⟩, .string ⟨#[]⟩, .string ⟨#[]⟩, .slice none 0 0, .string ⟨#[]⟩])), 7) := by kernel_rfl
theorem tin80 : (Try.prog.info? 80).map (fun i => (i.zero, i.size, i.bytes)) = some (some ((Value.agg #[.bool false, .string ⟨#[]⟩, .string ⟨#[]⟩, .string ⟨#[]⟩, .string ⟨#[]⟩, .slice none 0 0, .string ⟨#[]⟩])), 7, 112) := by kernel_rfl
theorem tsz81 : (Try.prog.info? 81).map (·.size) = some 1 := by kernel_rfl
theorem tz81 : (Try.prog.info? 81).map (fun i => (i.zero, i.size)) = some (some ((Value.nilFunc)), 1) := by kernel_rfl
theorem tin81 : (Try.prog.info? 81).map (fun i => (i.zero, i.size, i.bytes)) = some (some ((Value.nilFunc)), 1, 8) := by kernel_rfl
theorem tsz82 : (Try.prog.info? 82).map (·.size) = some 1 := by kernel_rfl
theorem tz82 : (Try.prog.info? 82).map (fun i => (i.zero, i.size)) = some (some ((Value.slice none 0 0)), 1) := by kernel_rfl
theorem tin82 : (Try.prog.info? 82).map (fun i => (i.zero, i.size, i.bytes)) = some (some ((Value.slice none 0 0)), 1, 24) := by kernel_rfl
theorem tsz84 : (Try.prog.info? 84).map (·.size) = some 1 := by kernel_rfl
theorem tz84 : (Try.prog.info? 84).map (fun i => (i.zero, i.size)) = some (some ((Value.nilFunc)), 1) := by kernel_rfl
theorem tin84 : (Try.prog.info? 84).map (fun i => (i.zero, i.size, i.bytes)) = some (some ((Value.nilFunc)), 1, 8) := by kernel_rfl
theorem tsz86 : (Try.prog.info? 86).map (·.size) = some 1 := by kernel_rfl
theorem tz86 : (Try.prog.info? 86).map (fun i => (i.zero, i.size)) = some (some ((Value.nilFunc)), 1) := by kernel_rfl
theorem tin86 : (Try.prog.info? 86).map (fun i => (i.zero, i.size, i.bytes)) = some (some ((Value.nilFunc)), 1, 8) := by kernel_rfl
theorem tsz87 : (Try.prog.info? 87).map (·.size) = some 1 := by kernel_rfl
theorem tz87 : (Try.prog.info? 87).map (fun i => (i.zero, i.size)) = some (some ((Value.nilFunc)), 1) := by kernel_rfl
theorem tin87 : (Try.prog.info? 87).map (fun i => (i.zero, i.size, i.bytes)) = some (some ((Value.nilFunc)), 1, 8) := by kernel_rfl
theorem tsz88 : (Try.prog.info? 88).map (·.size) = some 1 := by kernel_rfl
theorem tz88 : (Try.prog.info? 88).map (fun i => (i.zero, i.size)) = some (some ((Value.nilFunc)), 1) := by kernel_rfl
theorem tin88 : (Try.prog.info? 88).map (fun i => (i.zero, i.size, i.bytes)) = some (some ((Value.nilFunc)), 1, 8) := by kernel_rfl
theorem tsz90 : (Try.prog.info? 90).map (·.size) = some 1 := by kernel_rfl
theorem tz90 : (Try.prog.info? 90).map (fun i => (i.zero, i.size)) = some (some ((Value.nilFunc)), 1) := by kernel_rfl
theorem tin90 : (Try.prog.info? 90).map (fun i => (i.zero, i.size, i.bytes)) = some (some ((Value.nilFunc)), 1, 8) := by kernel_rfl
theorem tsz92 : (Try.prog.info? 92).map (·.size) = some 1 := by kernel_rfl
theorem tz92 : (Try.prog.info? 92).map (fun i => (i.zero, i.size)) = some (some ((Value.nilFunc)), 1) := by kernel_rfl
theorem tin92 : (Try.prog.info? 92).map (fun i => (i.zero, i.size, i.bytes)) = some (some ((Value.nilFunc)), 1, 8) := by kernel_rfl
theorem tsz93 : (Try.prog.info? 93).map (·.size) = some 2 := by kernel_rfl
theorem tz93 : (Try.prog.info? 93).map (fun i => (i.zero, i.size)) = some (some ((Value.agg #[.string ⟨#[]⟩, .string ⟨#[]⟩])), 2) := by kernel_rfl
theorem tin93 : (Try.prog.info? 93).map (fun i => (i.zero, i.size, i.bytes)) = some (some ((Value.agg #[.string ⟨#[]⟩, .string ⟨#[]⟩])), 2, 32) := by kernel_rfl
theorem tsz94 : (Try.prog.info? 94).map (·.size) = some 2 := by kernel_rfl
theorem tz94 : (Try.prog.info? 94).map (fun i => (i.zero, i.size)) = some (some ((Value.agg #[.string ⟨#[]⟩, .string ⟨#[]⟩])), 2) := by kernel_rfl
theorem tin94 : (Try.prog.info? 94).map (fun i => (i.zero, i.size, i.bytes)) = some (some ((Value.agg #[.string ⟨#[]⟩, .string ⟨#[]⟩])), 2, 32) := by kernel_rfl
theorem tsz95 : (Try.prog.info? 95).map (·.size) = some 1 := by kernel_rfl
theorem tz95 : (Try.prog.info? 95).map (fun i => (i.zero, i.size)) = some (some ((Value.slice none 0 0)), 1) := by kernel_rfl
theorem tin95 : (Try.prog.info? 95).map (fun i => (i.zero, i.size, i.bytes)) = some (some ((Value.slice none 0 0)), 1, 24) := by kernel_rfl
theorem tsz96 : (Try.prog.info? 96).map (·.size) = some 1 := by kernel_rfl
theorem tz96 : (Try.prog.info? 96).map (fun i => (i.zero, i.size)) = some (some ((Value.nilFunc)), 1) := by kernel_rfl
theorem tin96 : (Try.prog.info? 96).map (fun i => (i.zero, i.size, i.bytes)) = some (some ((Value.nilFunc)), 1, 8) := by kernel_rfl
theorem tsz97 : (Try.prog.info? 97).map (·.size) = some 1 := by kernel_rfl
theorem tz97 : (Try.prog.info? 97).map (fun i => (i.zero, i.size)) = some (some ((Value.nilFunc)), 1) := by kernel_rfl
theorem tin97 : (Try.prog.info? 97).map (fun i => (i.zero, i.size, i.bytes)) = some (some ((Value.nilFunc)), 1, 8) := by kernel_rfl
theorem tsz99 : (Try.prog.info? 99).map (·.size) = some 1 := by kernel_rfl
theorem tz99 : (Try.prog.info? 99).map (fun i => (i.zero, i.size)) = some (some ((Value.nilFunc)), 1) := by kernel_rfl
theorem tin99 : (Try.prog.info? 99).map (fun i => (i.zero, i.size, i.bytes)) = some (some ((Value.nilFunc)), 1, 8) := by kernel_rfl
theorem tsz101 : (Try.prog.info? 101).map (·.size) = some 1 := by kernel_rfl
theorem tz101 : (Try.prog.info? 101).map (fun i => (i.zero, i.size)) = some (some ((Value.nilFunc)), 1) := by kernel_rfl
theorem tin101 : (Try.prog.info? 101).map (fun i => (i.zero, i.size, i.bytes)) = some (some ((Value.nilFunc)), 1, 8) := by kernel_rfl
theorem tsz102 : (Try.prog.info? 102).map (·.size) = some 2 := by kernel_rfl
theorem tz102 : (Try.prog.info? 102).map (fun i => (i.zero, i.size)) = some (some ((Value.agg #[.string ⟨#[]⟩, .slice none 0 0])), 2) := by kernel_rfl
theorem tin102 : (Try.prog.info? 102).map (fun i => (i.zero, i.size, i.bytes)) = some (some ((Value.agg #[.string ⟨#[]⟩, .slice none 0 0])), 2, 40) := by kernel_rfl
theorem tsz103 : (Try.prog.info? 103).map (·.size) = some 2 := by kernel_rfl
theorem tz103 : (Try.prog.info? 103).map (fun i => (i.zero, i.size)) = some (some ((Value.agg #[.string ⟨#[]⟩, .slice none 0 0])), 2) := by kernel_rfl
theorem tin103 : (Try.prog.info? 103).map (fun i => (i.zero, i.size, i.bytes)) = some (some ((Value.agg #[.string ⟨#[]⟩, .slice none 0 0])), 2, 40) := by kernel_rfl
theorem tsz104 : (Try.prog.info? 104).map (·.size) = some 1 := by kernel_rfl
theorem tz104 : (Try.prog.info? 104).map (fun i => (i.zero, i.size)) = some (some ((Value.nilFunc)), 1) := by kernel_rfl
theorem tin104 : (Try.prog.info? 104).map (fun i => (i.zero, i.size, i.bytes)) = some (some ((Value.nilFunc)), 1, 8) := by kernel_rfl
theorem tsz105 : (Try.prog.info? 105).map (·.size) = some 1 := by kernel_rfl
theorem tz105 : (Try.prog.info? 105).map (fun i => (i.zero, i.size)) = some (some ((Value.slice none 0 0)), 1) := by kernel_rfl
theorem tin105 : (Try.prog.info? 105).map (fun i => (i.zero, i.size, i.bytes)) = some (some ((Value.slice none 0 0)), 1, 24) := by kernel_rfl
theorem tsz106 : (Try.prog.info? 106).map (·.size) = some 1 := by kernel_rfl
theorem tz106 : (Try.prog.info? 106).map (fun i => (i.zero, i.size)) = some (some ((Value.nilFunc)), 1) := by kernel_rfl
theorem tin106 : (Try.prog.info? 106).map (fun i => (i.zero, i.size, i.bytes)) = some (some ((Value.nilFunc)), 1, 8) := by kernel_rfl
theorem tsz107 : (Try.prog.info? 107).map (·.size) = some 2 := by kernel_rfl
theorem tz107 : (Try.prog.info? 107).map (fun i => (i.zero, i.size)) = some (some ((Value.agg #[.string ⟨#[]⟩, .string ⟨#[]⟩])), 2) := by kernel_rfl
theorem tin107 : (Try.prog.info? 107).map (fun i => (i.zero, i.size, i.bytes)) = some (some ((Value.agg #[.string ⟨#[]⟩, .string ⟨#[]⟩])), 2, 32) := by kernel_rfl
theorem tsz108 : (Try.prog.info? 108).map (·.size) = some 2 := by kernel_rfl
theorem tz108 : (Try.prog.info? 108).map (fun i => (i.zero, i.size)) = some (some ((Value.agg #[.string ⟨#[]⟩, .string ⟨#[]⟩])), 2) := by kernel_rfl
theorem tin108 : (Try.prog.info? 108).map (fun i => (i.zero, i.size, i.bytes)) = some (some ((Value.agg #[.string ⟨#[]⟩, .string ⟨#[]⟩])), 2, 32) := by kernel_rfl
theorem tsz109 : (Try.prog.info? 109).map (·.size) = some 4 := by kernel_rfl
theorem tz109 : (Try.prog.info? 109).map (fun i => (i.zero, i.size)) = some (some ((Value.agg #[.string ⟨#[]⟩, .string ⟨#[]⟩, .string ⟨#[]⟩, .slice none 0 0])), 4) := by kernel_rfl
theorem tin109 : (Try.prog.info? 109).map (fun i => (i.zero, i.size, i.bytes)) = some (some ((Value.agg #[.string ⟨#[]⟩, .string ⟨#[]⟩, .string ⟨#[]⟩, .slice none 0 0])), 4, 72) := by kernel_rfl
theorem tsz110 : (Try.prog.info? 110).map (·.size) = some 4 := by kernel_rfl
theorem tz110 : (Try.prog.info? 110).map (fun i => (i.zero, i.size)) = some (some ((Value.agg #[.string ⟨#[]⟩, .string ⟨#[]⟩, .string ⟨#[]⟩, .slice none 0 0])), 4) := by kernel_rfl
theorem tin110 : (Try.prog.info? 110).map (fun i => (i.zero, i.size, i.bytes)) = some (some ((Value.agg #[.string ⟨#[]⟩, .string ⟨#[]⟩, .string ⟨#[]⟩, .slice none 0 0])), 4, 72) := by kernel_rfl
theorem tsz111 : (Try.prog.info? 111).map (·.size) = some 1 := by kernel_rfl
theorem tz111 : (Try.prog.info? 111).map (fun i => (i.zero, i.size)) = some (some ((Value.nilFunc)), 1) := by kernel_rfl
theorem tin111 : (Try.prog.info? 111).map (fun i => (i.zero, i.size, i.bytes)) = some (some ((Value.nilFunc)), 1, 8) := by kernel_rfl
theorem tsz113 : (Try.prog.info? 113).map (·.size) = some 1 := by kernel_rfl
theorem tz113 : (Try.prog.info? 113).map (fun i => (i.zero, i.size)) = some (some ((Value.nilFunc)), 1) := by kernel_rfl
theorem tin113 : (Try.prog.info? 113).map (fun i => (i.zero, i.size, i.bytes)) = some (some ((Value.nilFunc)), 1, 8) := by kernel_rfl
theorem tsz115 : (Try.prog.info? 115).map (·.size) = some 1 := by kernel_rfl
theorem tz115 : (Try.prog.info? 115).map (fun i => (i.zero, i.size)) = some (some ((Value.nilFunc)), 1) := by kernel_rfl
theorem tin115 : (Try.prog.info? 115).map (fun i => (i.zero, i.size, i.bytes)) = some (some ((Value.nilFunc)), 1, 8) := by kernel_rfl
theorem tsz116 : (Try.prog.info? 116).map (·.size) = some 1 := by kernel_rfl
theorem tz116 : (Try.prog.info? 116).map (fun i => (i.zero, i.size)) = some (some ((Value.nilFunc)), 1) := by kernel_rfl
theorem tin116 : (Try.prog.info? 116).map (fun i => (i.zero, i.size, i.bytes)) = some (some ((Value.nilFunc)), 1, 8) := by kernel_rfl
theorem tsz117 : (Try.prog.info? 117).map (·.size) = some 1 := by kernel_rfl
theorem tz117 : (Try.prog.info? 117).map (fun i => (i.zero, i.size)) = some (some ((Value.nilFunc)), 1) := by kernel_rfl
theorem tin117 : (Try.prog.info? 117).map (fun i => (i.zero, i.size, i.bytes)) = some (some ((Value.nilFunc)), 1, 8) := by kernel_rfl
theorem tsz119 : (Try.prog.info? 119).map (·.size) = some 1 := by kernel_rfl
theorem tz119 : (Try.prog.info? 119).map (fun i => (i.zero, i.size)) = some (some ((Value.nilFunc)), 1) := by kernel_rfl
theorem tin119 : (Try.prog.info? 119).map (fun i => (i.zero, i.size, i.bytes)) = some (some ((Value.nilFunc)), 1, 8) := by kernel_rfl
theorem tsz121 : (Try.prog.info? 121).map (·.size) = some 1 := by kernel_rfl
theorem tz121 : (Try.prog.info? 121).map (fun i => (i.zero, i.size)) = some (some ((Value.nilFunc)), 1) := by kernel_rfl
theorem tin121 : (Try.prog.info? 121).map (fun i => (i.zero, i.size, i.bytes)) = some (some ((Value.nilFunc)), 1, 8) := by kernel_rfl
theorem tsz122 : (Try.prog.info? 122).map (·.size) = some 1 := by kernel_rfl
theorem tz122 : (Try.prog.info? 122).map (fun i => (i.zero, i.size)) = some (some ((Value.nilFunc)), 1) := by kernel_rfl
theorem tin122 : (Try.prog.info? 122).map (fun i => (i.zero, i.size, i.bytes)) = some (some ((Value.nilFunc)), 1, 8) := by kernel_rfl
theorem tsz123 : (Try.prog.info? 123).map (·.size) = some 1 := by kernel_rfl
theorem tz123 : (Try.prog.info? 123).map (fun i => (i.zero, i.size)) = some (some ((Value.nilFunc)), 1) := by kernel_rfl
theorem tin123 : (Try.prog.info? 123).map (fun i => (i.zero, i.size, i.bytes)) = some (some ((Value.nilFunc)), 1, 8) := by kernel_rfl
theorem tsz124 : (Try.prog.info? 124).map (·.size) = some 1 := by kernel_rfl
theorem tz124 : (Try.prog.info? 124).map (fun i => (i.zero, i.size)) = some (some ((Value.nilFunc)), 1) := by kernel_rfl
theorem tin124 : (Try.prog.info? 124).map (fun i => (i.zero, i.size, i.bytes)) = some (some ((Value.nilFunc)), 1, 8) := by kernel_rfl
theorem tsz125 : (Try.prog.info? 125).map (·.size) = some 1 := by kernel_rfl
theorem tz125 : (Try.prog.info? 125).map (fun i => (i.zero, i.size)) = some (some ((Value.pointer none)), 1) := by kernel_rfl
theorem tin125 : (Try.prog.info? 125).map (fun i => (i.zero, i.size, i.bytes)) = some (some ((Value.pointer none)), 1, 8) := by kernel_rfl
theorem tsz127 : (Try.prog.info? 127).map (·.size) = some 1 := by kernel_rfl
theorem tz127 : (Try.prog.info? 127).map (fun i => (i.zero, i.size)) = some (some ((Value.nilFunc)), 1) := by kernel_rfl
theorem tin127 : (Try.prog.info? 127).map (fun i => (i.zero, i.size, i.bytes)) = some (some ((Value.nilFunc)), 1, 8) := by kernel_rfl
theorem tsz128 : (Try.prog.info? 128).map (·.size) = some 1 := by kernel_rfl
theorem tz128 : (Try.prog.info? 128).map (fun i => (i.zero, i.size)) = some (some ((Value.nilFunc)), 1) := by kernel_rfl
theorem tin128 : (Try.prog.info? 128).map (fun i => (i.zero, i.size, i.bytes)) = some (some ((Value.nilFunc)), 1, 8) := by kernel_rfl
theorem tsz129 : (Try.prog.info? 129).map (·.size) = some 1 := by kernel_rfl
theorem tz129 : (Try.prog.info? 129).map (fun i => (i.zero, i.size)) = some (some ((Value.nilFunc)), 1) := by kernel_rfl
theorem tin129 : (Try.prog.info? 129).map (fun i => (i.zero, i.size, i.bytes)) = some (some ((Value.nilFunc)), 1, 8) := by kernel_rfl
theorem tsz130 : (Try.prog.info? 130).map (·.size) = some 1 := by kernel_rfl
theorem tz130 : (Try.prog.info? 130).map (fun i => (i.zero, i.size)) = some (some ((Value.nilFunc)), 1) := by kernel_rfl
theorem tin130 : (Try.prog.info? 130).map (fun i => (i.zero, i.size, i.bytes)) = some (some ((Value.nilFunc)), 1, 8) := by kernel_rfl
theorem tsz131 : (Try.prog.info? 131).map (·.size) = some 1 := by kernel_rfl
theorem tz131 : (Try.prog.info? 131).map (fun i => (i.zero, i.size)) = some (some ((Value.nilFunc)), 1) := by kernel_rfl
theorem tin131 : (Try.prog.info? 131).map (fun i => (i.zero, i.size, i.bytes)) = some (some ((Value.nilFunc)), 1, 8) := by kernel_rfl
theorem tsz132 : (Try.prog.info? 132).map (·.size) = some 1 := by kernel_rfl
theorem tz132 : (Try.prog.info? 132).map (fun i => (i.zero, i.size)) = some (some ((Value.nilFunc)), 1) := by kernel_rfl
theorem tin132 : (Try.prog.info? 132).map (fun i => (i.zero, i.size, i.bytes)) = some (some ((Value.nilFunc)), 1, 8) := by kernel_rfl
theorem tsz133 : (Try.prog.info? 133).map (·.size) = some 1 := by kernel_rfl
theorem tz133 : (Try.prog.info? 133).map (fun i => (i.zero, i.size)) = some (some ((Value.nilFunc)), 1) := by kernel_rfl
theorem tin133 : (Try.prog.info? 133).map (fun i => (i.zero, i.size, i.bytes)) = some (some ((Value.nilFunc)), 1, 8) := by kernel_rfl
theorem tsz134 : (Try.prog.info? 134).map (·.size) = some 1 := by kernel_rfl
theorem tz134 : (Try.prog.info? 134).map (fun i => (i.zero, i.size)) = some (some ((Value.nilFunc)), 1) := by kernel_rfl
theorem tin134 : (Try.prog.info? 134).map (fun i => (i.zero, i.size, i.bytes)) = some (some ((Value.nilFunc)), 1, 8) := by kernel_rfl
theorem tsz135 : (Try.prog.info? 135).map (·.size) = some 1 := by kernel_rfl
theorem tz135 : (Try.prog.info? 135).map (fun i => (i.zero, i.size)) = some (some ((Value.pointer none)), 1) := by kernel_rfl
theorem tin135 : (Try.prog.info? 135).map (fun i => (i.zero, i.size, i.bytes)) = some (some ((Value.pointer none)), 1, 8) := by kernel_rfl
theorem tsz136 : (Try.prog.info? 136).map (·.size) = some 1 := by kernel_rfl
theorem tz136 : (Try.prog.info? 136).map (fun i => (i.zero, i.size)) = some (some ((Value.nilFunc)), 1) := by kernel_rfl
theorem tin136 : (Try.prog.info? 136).map (fun i => (i.zero, i.size, i.bytes)) = some (some ((Value.nilFunc)), 1, 8) := by kernel_rfl
theorem tsz137 : (Try.prog.info? 137).map (·.size) = some 1 := by kernel_rfl
theorem tz137 : (Try.prog.info? 137).map (fun i => (i.zero, i.size)) = some (some ((Value.nilFunc)), 1) := by kernel_rfl
theorem tin137 : (Try.prog.info? 137).map (fun i => (i.zero, i.size, i.bytes)) = some (some ((Value.nilFunc)), 1, 8) := by kernel_rfl
theorem tsz138 : (Try.prog.info? 138).map (·.size) = some 1 := by kernel_rfl
theorem tz138 : (Try.prog.info? 138).map (fun i => (i.zero, i.size)) = some (some ((Value.nilFunc)), 1) := by kernel_rfl
theorem tin138 : (Try.prog.info? 138).map (fun i => (i.zero, i.size, i.bytes)) = some (some ((Value.nilFunc)), 1, 8) := by kernel_rfl
theorem tsz139 : (Try.prog.info? 139).map (·.size) = some 1 := by kernel_rfl
theorem tz139 : (Try.prog.info? 139).map (fun i => (i.zero, i.size)) = some (some ((Value.nilIface)), 1) := by kernel_rfl
theorem tin139 : (Try.prog.info? 139).map (fun i => (i.zero, i.size, i.bytes)) = some (some ((Value.nilIface)), 1, 16) := by kernel_rfl
theorem tsz140 : (Try.prog.info? 140).map (·.size) = some 1 := by kernel_rfl
theorem tz140 : (Try.prog.info? 140).map (fun i => (i.zero, i.size)) = some (some ((Value.nilIface)), 1) := by kernel_rfl
theorem tin140 : (Try.prog.info? 140).map (fun i => (i.zero, i.size, i.bytes)) = some (some ((Value.nilIface)), 1, 16) := by kernel_rfl
theorem tsz142 : (Try.prog.info? 142).map (·.size) = some 1 := by kernel_rfl
theorem tz142 : (Try.prog.info? 142).map (fun i => (i.zero, i.size)) = some (some ((Value.nilFunc)), 1) := by kernel_rfl
theorem tin142 : (Try.prog.info? 142).map (fun i => (i.zero, i.size, i.bytes)) = some (some ((Value.nilFunc)), 1, 8) := by kernel_rfl
theorem tsz143 : (Try.prog.info? 143).map (·.size) = some 1 := by kernel_rfl
theorem tz143 : (Try.prog.info? 143).map (fun i => (i.zero, i.size)) = some (some ((Value.nilFunc)), 1) := by kernel_rfl
theorem tin143 : (Try.prog.info? 143).map (fun i => (i.zero, i.size, i.bytes)) = some (some ((Value.nilFunc)), 1, 8) := by kernel_rfl
theorem tsz144 : (Try.prog.info? 144).map (·.size) = some 1 := by kernel_rfl
theorem tz144 : (Try.prog.info? 144).map (fun i => (i.zero, i.size)) = some (some ((Value.nilFunc)), 1) := by kernel_rfl
theorem tin144 : (Try.prog.info? 144).map (fun i => (i.zero, i.size, i.bytes)) = some (some ((Value.nilFunc)), 1, 8) := by kernel_rfl
theorem tsz145 : (Try.prog.info? 145).map (·.size) = some 3 := by kernel_rfl
theorem tz145 : (Try.prog.info? 145).map (fun i => (i.zero, i.size)) = some (some ((Value.agg #[.int .i64 0, .int .i64 0, .int .i64 0])), 3) := by kernel_rfl
theorem tin145 : (Try.prog.info? 145).map (fun i => (i.zero, i.size, i.bytes)) = some (some ((Value.agg #[.int .i64 0, .int .i64 0, .int .i64 0])), 3, 24) := by kernel_rfl
theorem tsz147 : (Try.prog.info? 147).map (·.size) = some 1 := by kernel_rfl
theorem tz147 : (Try.prog.info? 147).map (fun i => (i.zero, i.size)) = some (some ((Value.nilFunc)), 1) := by kernel_rfl
theorem tin147 : (Try.prog.info? 147).map (fun i => (i.zero, i.size, i.bytes)) = some (some ((Value.nilFunc)), 1, 8) := by kernel_rfl
theorem tsz148 : (Try.prog.info? 148).map (·.size) = some 1 := by kernel_rfl
theorem tz148 : (Try.prog.info? 148).map (fun i => (i.zero, i.size)) = some (some ((Value.slice none 0 0)), 1) := by kernel_rfl
theorem tin148 : (Try.prog.info? 148).map (fun i => (i.zero, i.size, i.bytes)) = some (some ((Value.slice none 0 0)), 1, 24) := by kernel_rfl
theorem tsz149 : (Try.prog.info? 149).map (·.size) = some 1 := by kernel_rfl
theorem tz149 : (Try.prog.info? 149).map (fun i => (i.zero, i.size)) = some (some ((Value.nilFunc)), 1) := by kernel_rfl
theorem tin149 : (Try.prog.info? 149).map (fun i => (i.zero, i.size, i.bytes)) = some (some ((Value.nilFunc)), 1, 8) := by kernel_rfl
theorem tsz150 : (Try.prog.info? 150).map (·.size) = some 1 := by kernel_rfl
theorem tz150 : (Try.prog.info? 150).map (fun i => (i.zero, i.size)) = some (some ((Value.slice none 0 0)), 1) := by kernel_rfl
theorem tin150 : (Try.prog.info? 150).map (fun i => (i.zero, i.size, i.bytes)) = some (some ((Value.slice none 0 0)), 1, 24) := by kernel_rfl
theorem tsz151 : (Try.prog.info? 151).map (·.size) = some 1 := by kernel_rfl
theorem tz151 : (Try.prog.info? 151).map (fun i => (i.zero, i.size)) = some (some ((Value.slice none 0 0)), 1) := by kernel_rfl
theorem tin151 : (Try.prog.info? 151).map (fun i => (i.zero, i.size, i.bytes)) = some (some ((Value.slice none 0 0)), 1, 24) := by kernel_rfl
theorem tsz153 : (Try.prog.info? 153).map (·.size) = some 1 := by kernel_rfl
theorem tz153 : (Try.prog.info? 153).map (fun i => (i.zero, i.size)) = some (some ((Value.nilFunc)), 1) := by kernel_rfl
theorem tin153 : (Try.prog.info? 153).map (fun i => (i.zero, i.size, i.bytes)) = some (some ((Value.nilFunc)), 1, 8) := by kernel_rfl
theorem tsz154 : (Try.prog.info? 154).map (·.size) = some 1 := by kernel_rfl
theorem tz154 : (Try.prog.info? 154).map (fun i => (i.zero, i.size)) = some (some ((Value.pointer none)), 1) := by kernel_rfl
theorem tin154 : (Try.prog.info? 154).map (fun i => (i.zero, i.size, i.bytes)) = some (some ((Value.pointer none)), 1, 8) := by kernel_rfl
theorem tsz156 : (Try.prog.info? 156).map (·.size) = some 1 := by kernel_rfl
theorem tz156 : (Try.prog.info? 156).map (fun i => (i.zero, i.size)) = some (some ((Value.nilFunc)), 1) := by kernel_rfl
theorem tin156 : (Try.prog.info? 156).map (fun i => (i.zero, i.size, i.bytes)) = some (some ((Value.nilFunc)), 1, 8) := by kernel_rfl
theorem tsz157 : (Try.prog.info? 157).map (·.size) = some 1 := by kernel_rfl
theorem tz157 : (Try.prog.info? 157).map (fun i => (i.zero, i.size)) = some (some ((Value.nilFunc)), 1) := by kernel_rfl
theorem tin157 : (Try.prog.info? 157).map (fun i => (i.zero, i.size, i.bytes)) = some (some ((Value.nilFunc)), 1, 8) := by kernel_rfl
theorem tsz158 : (Try.prog.info? 158).map (·.size) = some 1 := by kernel_rfl
theorem tz158 : (Try.prog.info? 158).map (fun i => (i.zero, i.size)) = some (some ((Value.nilFunc)), 1) := by kernel_rfl
theorem tin158 : (Try.prog.info? 158).map (fun i => (i.zero, i.size, i.bytes)) = some (some ((Value.nilFunc)), 1, 8) := by kernel_rfl
theorem tsz159 : (Try.prog.info? 159).map (·.size) = some 1 := by kernel_rfl
theorem tz159 : (Try.prog.info? 159).map (fun i => (i.zero, i.size)) = some (some ((Value.nilFunc)), 1) := by kernel_rfl
theorem tin159 : (Try.prog.info? 159).map (fun i => (i.zero, i.size, i.bytes)) = some (some ((Value.nilFunc)), 1, 8) := by kernel_rfl
theorem tsz160 : (Try.prog.info? 160).map (·.size) = some 1 := by kernel_rfl
theorem tz160 : (Try.prog.info? 160).map (fun i => (i.zero, i.size)) = some (some ((Value.nilFunc)), 1) := by kernel_rfl
theorem tin160 : (Try.prog.info? 160).map (fun i => (i.zero, i.size, i.bytes)) = some (some ((Value.nilFunc)), 1, 8) := by kernel_rfl
theorem tsz161 : (Try.prog.info? 161).map (·.size) = some 1 := by kernel_rfl
theorem tz161 : (Try.prog.info? 161).map (fun i => (i.zero, i.size)) = some (some ((Value.slice none 0 0)), 1) := by kernel_rfl
theorem tin161 : (Try.prog.info? 161).map (fun i => (i.zero, i.size, i.bytes)) = some (some ((Value.slice none 0 0)), 1, 24) := by kernel_rfl
theorem tsz162 : (Try.prog.info? 162).map (·.size) = some 1 := by kernel_rfl
theorem tz162 : (Try.prog.info? 162).map (fun i => (i.zero, i.size)) = some (some ((Value.nilFunc)), 1) := by kernel_rfl
theorem tin162 : (Try.prog.info? 162).map (fun i => (i.zero, i.size, i.bytes)) = some (some ((Value.nilFunc)), 1, 8) := by kernel_rfl
theorem tsz163 : (Try.prog.info? 163).map (·.size) = some 1 := by kernel_rfl
theorem tz163 : (Try.prog.info? 163).map (fun i => (i.zero, i.size)) = some (some ((Value.pointer none)), 1) := by kernel_rfl
theorem tin163 : (Try.prog.info? 163).map (fun i => (i.zero, i.size, i.bytes)) = some (some ((Value.pointer none)), 1, 8) := by kernel_rfl
theorem tsz164 : (Try.prog.info? 164).map (·.size) = some 1 := by kernel_rfl
theorem tz164 : (Try.prog.info? 164).map (fun i => (i.zero, i.size)) = some (some ((Value.nilFunc)), 1) := by kernel_rfl
theorem tin164 : (Try.prog.info? 164).map (fun i => (i.zero, i.size, i.bytes)) = some (some ((Value.nilFunc)), 1, 8) := by kernel_rfl
theorem tsz165 : (Try.prog.info? 165).map (·.size) = some 1 := by kernel_rfl
theorem tz165 : (Try.prog.info? 165).map (fun i => (i.zero, i.size)) = some (some ((Value.nilFunc)), 1) := by kernel_rfl
theorem tin165 : (Try.prog.info? 165).map (fun i => (i.zero, i.size, i.bytes)) = some (some ((Value.nilFunc)), 1, 8) := by kernel_rfl
theorem tsz166 : (Try.prog.info? 166).map (·.size) = some 1 := by kernel_rfl
theorem tz166 : (Try.prog.info? 166).map (fun i => (i.zero, i.size)) = some (some ((Value.nilFunc)), 1) := by kernel_rfl
theorem tin166 : (Try.prog.info? 166).map (fun i => (i.zero, i.size, i.bytes)) = some (some ((Value.nilFunc)), 1, 8) := by kernel_rfl
theorem tsz167 : (Try.prog.info? 167).map (·.size) = some 1 := by kernel_rfl
theorem tz167 : (Try.prog.info? 167).map (fun i => (i.zero, i.size)) = some (some ((Value.slice none 0 0)), 1) := by kernel_rfl
theorem tin167 : (Try.prog.info? 167).map (fun i => (i.zero, i.size, i.bytes)) = some (some ((Value.slice none 0 0)), 1, 24) := by kernel_rfl
theorem tsz168 : (Try.prog.info? 168).map (·.size) = some 1 := by kernel_rfl
theorem tz168 : (Try.prog.info? 168).map (fun i => (i.zero, i.size)) = some (some ((Value.nilFunc)), 1) := by kernel_rfl
theorem tin168 : (Try.prog.info? 168).map (fun i => (i.zero, i.size, i.bytes)) = some (some ((Value.nilFunc)), 1, 8) := by kernel_rfl
theorem tsz169 : (Try.prog.info? 169).map (·.size) = some 1 := by kernel_rfl
theorem tz169 : (Try.prog.info? 169).map (fun i => (i.zero, i.size)) = some (some ((Value.pointer none)), 1) := by kernel_rfl
theorem tin169 : (Try.prog.info? 169).map (fun i => (i.zero, i.size, i.bytes)) = some (some ((Value.pointer none)), 1, 8) := by kernel_rfl
theorem tsz170 : (Try.prog.info? 170).map (·.size) = some 2 := by kernel_rfl
theorem tz170 : (Try.prog.info? 170).map (fun i => (i.zero, i.size)) = some (some ((Value.agg #[.string ⟨#[]⟩, .slice none 0 0])), 2) := by kernel_rfl
theorem tin170 : (Try.prog.info? 170).map (fun i => (i.zero, i.size, i.bytes)) = some (some ((Value.agg #[.string ⟨#[]⟩, .slice none 0 0])), 2, 40) := by kernel_rfl
theorem tsz171 : (Try.prog.info? 171).map (·.size) = some 2 := by kernel_rfl
theorem tz171 : (Try.prog.info? 171).map (fun i => (i.zero, i.size)) = some (some ((Value.agg #[.string ⟨#[]⟩, .slice none 0 0])), 2) := by kernel_rfl
theorem tin171 : (Try.prog.info? 171).map (fun i => (i.zero, i.size, i.bytes)) = some (some ((Value.agg #[.string ⟨#[]⟩, .slice none 0 0])), 2, 40) := by kernel_rfl
theorem tsz172 : (Try.prog.info? 172).map (·.size) = some 1 := by kernel_rfl
theorem tz172 : (Try.prog.info? 172).map (fun i => (i.zero, i.size)) = some (some ((Value.slice none 0 0)), 1) := by kernel_rfl
theorem tin172 : (Try.prog.info? 172).map (fun i => (i.zero, i.size, i.bytes)) = some (some ((Value.slice none 0 0)), 1, 24) := by kernel_rfl
theorem tsz173 : (Try.prog.info? 173).map (·.size) = some 1 := by kernel_rfl
theorem tz173 : (Try.prog.info? 173).map (fun i => (i.zero, i.size)) = some (some ((Value.nilFunc)), 1) := by kernel_rfl
theorem tin173 : (Try.prog.info? 173).map (fun i => (i.zero, i.size, i.bytes)) = some (some ((Value.nilFunc)), 1, 8) := by kernel_rfl
theorem tsz174 : (Try.prog.info? 174).map (·.size) = some 3 := by kernel_rfl
theorem tz174 : (Try.prog.info? 174).map (fun i => (i.zero, i.size)) = some (some ((Value.agg #[.string ⟨#[]⟩, .string ⟨#[]⟩, .pointer none])), 3) := by kernel_rfl
theorem tin174 : (Try.prog.info? 174).map (fun i => (i.zero, i.size, i.bytes)) = some (some ((Value.agg #[.string ⟨#[]⟩, .string ⟨#[]⟩, .pointer none])), 3, 40) := by kernel_rfl
theorem tsz175 : (Try.prog.info? 175).map (·.size) = some 3 := by kernel_rfl
theorem tz175 : (Try.prog.info? 175).map (fun i => (i.zero, i.size)) = some (some ((Value.agg #[.string ⟨#[]⟩, .string ⟨#[]⟩, .pointer none])), 3) := by kernel_rfl
theorem tin175 : (Try.prog.info? 175).map (fun i => (i.zero, i.size, i.bytes)) = some (some ((Value.agg #[.string ⟨#[]⟩, .string ⟨#[]⟩, .pointer none])), 3, 40) := by kernel_rfl
theorem tsz176 : (Try.prog.info? 176).map (·.size) = some 1 := by kernel_rfl
theorem tz176 : (Try.prog.info? 176).map (fun i => (i.zero, i.size)) = some (some ((Value.nilFunc)), 1) := by kernel_rfl
theorem tin176 : (Try.prog.info? 176).map (fun i => (i.zero, i.size, i.bytes)) = some (some ((Value.nilFunc)), 1, 8) := by kernel_rfl
theorem tsz177 : (Try.prog.info? 177).map (·.size) = some 1 := by kernel_rfl
theorem tz177 : (Try.prog.info? 177).map (fun i => (i.zero, i.size)) = some (some ((Value.pointer none)), 1) := by kernel_rfl
theorem tin177 : (Try.prog.info? 177).map (fun i => (i.zero, i.size, i.bytes)) = some (some ((Value.pointer none)), 1, 8) := by kernel_rfl
theorem tsz179 : (Try.prog.info? 179).map (·.size) = some 1 := by kernel_rfl
theorem tz179 : (Try.prog.info? 179).map (fun i => (i.zero, i.size)) = some (some ((Value.nilFunc)), 1) := by kernel_rfl
theorem tin179 : (Try.prog.info? 179).map (fun i => (i.zero, i.size, i.bytes)) = some (some ((Value.nilFunc)), 1, 8) := by kernel_rfl
theorem tsz180 : (Try.prog.info? 180).map (·.size) = some 1 := by kernel_rfl
theorem tz180 : (Try.prog.info? 180).map (fun i => (i.zero, i.size)) = some (some ((Value.nilFunc)), 1) := by kernel_rfl
theorem tin180 : (Try.prog.info? 180).map (fun i => (i.zero, i.size, i.bytes)) = some (some ((Value.nilFunc)), 1, 8) := by kernel_rfl
theorem tsz182 : (Try.prog.info? 182).map (·.size) = some 1 := by kernel_rfl
theorem tz182 : (Try.prog.info? 182).map (fun i => (i.zero, i.size)) = some (some ((Value.nilFunc)), 1) := by kernel_rfl
theorem tin182 : (Try.prog.info? 182).map (fun i => (i.zero, i.size, i.bytes)) = some (some ((Value.nilFunc)), 1, 8) := by kernel_rfl
theorem tsz183 : (Try.prog.info? 183).map (·.size) = some 1 := by kernel_rfl
theorem tz183 : (Try.prog.info? 183).map (fun i => (i.zero, i.size)) = some (some ((Value.nilFunc)), 1) := by kernel_rfl
theorem tin183 : (Try.prog.info? 183).map (fun i => (i.zero, i.size, i.bytes)) = some (some ((Value.nilFunc)), 1, 8) := by kernel_rfl
theorem tsz184 : (Try.prog.info? 184).map (·.size) = some 3 := by kernel_rfl
theorem tz184 : (Try.prog.info? 184).map (fun i => (i.zero, i.size)) = some (some ((Value.agg #[.string ⟨#[]⟩, .string ⟨#[]⟩, .nilFunc])), 3) := by kernel_rfl
theorem tin184 : (Try.prog.info? 184).map (fun i => (i.zero, i.size, i.bytes)) = some (some ((Value.agg #[.string ⟨#[]⟩, .string ⟨#[]⟩, .nilFunc])), 3, 40) := by kernel_rfl
theorem tsz185 : (Try.prog.info? 185).map (·.size) = some 3 := by kernel_rfl
theorem tz185 : (Try.prog.info? 185).map (fun i => (i.zero, i.size)) = some (some ((Value.agg #[.string ⟨#[]⟩, .string ⟨#[]⟩, .nilFunc])), 3) := by kernel_rfl
theorem tin185 : (Try.prog.info? 185).map (fun i => (i.zero, i.size, i.bytes)) = some (some ((Value.agg #[.string ⟨#[]⟩, .string ⟨#[]⟩, .nilFunc])), 3, 40) := by kernel_rfl
theorem tsz186 : (Try.prog.info? 186).map (·.size) = some 1 := by kernel_rfl
theorem tz186 : (Try.prog.info? 186).map (fun i => (i.zero, i.size)) = some (some ((Value.pointer none)), 1) := by kernel_rfl
theorem tin186 : (Try.prog.info? 186).map (fun i => (i.zero, i.size, i.bytes)) = some (some ((Value.pointer none)), 1, 8) := by kernel_rfl
theorem tsz187 : (Try.prog.info? 187).map (·.size) = some 1 := by kernel_rfl
theorem tz187 : (Try.prog.info? 187).map (fun i => (i.zero, i.size)) = some (some ((Value.slice none 0 0)), 1) := by kernel_rfl
theorem tin187 : (Try.prog.info? 187).map (fun i => (i.zero, i.size, i.bytes)) = some (some ((Value.slice none 0 0)), 1, 24) := by kernel_rfl
theorem tsz188 : (Try.prog.info? 188).map (·.size) = some 5 := by kernel_rfl
theorem tz188 : (Try.prog.info? 188).map (fun i => (i.zero, i.size)) = some (some ((Value.agg #[.string ⟨#[]⟩, .string ⟨#[]⟩, .slice none 0 0, .string ⟨#[]⟩, .bool false])), 5) := by kernel_rfl
theorem tin188 : (Try.prog.info? 188).map (fun i => (i.zero, i.size, i.bytes)) = some (some ((Value.agg #[.string ⟨#[]⟩, .string ⟨#[]⟩, .slice none 0 0, .string ⟨#[]⟩, .bool false])), 5, 80) := by kernel_rfl
theorem tsz189 : (Try.prog.info? 189).map (·.size) = some 5 := by kernel_rfl
theorem tz189 : (Try.prog.info? 189).map (fun i => (i.zero, i.size)) = some (some ((Value.agg #[.string ⟨#[]⟩, .string ⟨#[]⟩, .slice none 0 0, .string ⟨#[]⟩, .bool false])), 5) := by kernel_rfl
theorem tin189 : (Try.prog.info? 189).map (fun i => (i.zero, i.size, i.bytes)) = some (some ((Value.agg #[.string ⟨#[]⟩, .string ⟨#[]⟩, .slice none 0 0, .string ⟨#[]⟩, .bool false])), 5, 80) := by kernel_rfl
theorem tsz190 : (Try.prog.info? 190).map (·.size) = some 4 := by kernel_rfl
theorem tz190 : (Try.prog.info? 190).map (fun i => (i.zero, i.size)) = some (some ((Value.agg #[.string ⟨#[]⟩, .string ⟨#[]⟩, .string ⟨#[]⟩, .slice none 0 0])), 4) := by kernel_rfl
theorem tin190 : (Try.prog.info? 190).map (fun i => (i.zero, i.size, i.bytes)) = some (some ((Value.agg #[.string ⟨#[]⟩, .string ⟨#[]⟩, .string ⟨#[]⟩, .slice none 0 0])), 4, 72) := by kernel_rfl
theorem tsz191 : (Try.prog.info? 191).map (·.size) = some 4 := by kernel_rfl
theorem tz191 : (Try.prog.info? 191).map (fun i => (i.zero, i.size)) = some (some ((Value.agg #[.string ⟨#[]⟩, .string ⟨#[]⟩, .string ⟨#[]⟩, .slice none 0 0])), 4) := by kernel_rfl
theorem tin191 : (Try.prog.info? 191).map (fun i => (i.zero, i.size, i.bytes)) = some (some ((Value.agg #[.string ⟨#[]⟩, .string ⟨#[]⟩, .string ⟨#[]⟩, .slice none 0 0])), 4, 72) := by kernel_rfl
theorem tsz193 : (Try.prog.info? 193).map (·.size) = some 1 := by kernel_rfl
theorem tz193 : (Try.prog.info? 193).map (fun i => (i.zero, i.size)) = some (some ((Value.pointer none)), 1) := by kernel_rfl
theorem tin193 : (Try.prog.info? 193).map (fun i => (i.zero, i.size, i.bytes)) = some (some ((Value.pointer none)), 1, 8) := by kernel_rfl
theorem tsz194 : (Try.prog.info? 194).map (·.size) = some 2 := by kernel_rfl
theorem tz194 : (Try.prog.info? 194).map (fun i => (i.zero, i.size)) = some (some ((Value.agg #[.pointer none, .string ⟨#[]⟩])), 2) := by kernel_rfl
theorem tin194 : (Try.prog.info? 194).map (fun i => (i.zero, i.size, i.bytes)) = some (some ((Value.agg #[.pointer none, .string ⟨#[]⟩])), 2, 24) := by kernel_rfl
theorem tsz195 : (Try.prog.info? 195).map (·.size) = some 2 := by kernel_rfl
theorem tz195 : (Try.prog.info? 195).map (fun i => (i.zero, i.size)) = some (some ((Value.agg #[.pointer none, .string ⟨#[]⟩])), 2) := by kernel_rfl
theorem tin195 : (Try.prog.info? 195).map (fun i => (i.zero, i.size, i.bytes)) = some (some ((Value.agg #[.pointer none, .string ⟨#[]⟩])), 2, 24) := by kernel_rfl
theorem tsz196 : (Try.prog.info? 196).map (·.size) = some 1 := by kernel_rfl
theorem tz196 : (Try.prog.info? 196).map (fun i => (i.zero, i.size)) = some (some ((Value.nilFunc)), 1) := by kernel_rfl
theorem tin196 : (Try.prog.info? 196).map (fun i => (i.zero, i.size, i.bytes)) = some (some ((Value.nilFunc)), 1, 8) := by kernel_rfl
theorem tsz197 : (Try.prog.info? 197).map (·.size) = some 1 := by kernel_rfl
theorem tz197 : (Try.prog.info? 197).map (fun i => (i.zero, i.size)) = some (some ((Value.pointer none)), 1) := by kernel_rfl
theorem tin197 : (Try.prog.info? 197).map (fun i => (i.zero, i.size, i.bytes)) = some (some ((Value.pointer none)), 1, 8) := by kernel_rfl
theorem tsz198 : (Try.prog.info? 198).map (·.size) = some 1 := by kernel_rfl
theorem tz198 : (Try.prog.info? 198).map (fun i => (i.zero, i.size)) = some (some ((Value.slice none 0 0)), 1) := by kernel_rfl
theorem tin198 : (Try.prog.info? 198).map (fun i => (i.zero, i.size, i.bytes)) = some (some ((Value.slice none 0 0)), 1, 24) := by kernel_rfl
theorem tsz199 : (Try.prog.info? 199).map (·.size) = some 1 := by kernel_rfl
theorem tz199 : (Try.prog.info? 199).map (fun i => (i.zero, i.size)) = some (some ((Value.nilFunc)), 1) := by kernel_rfl
theorem tin199 : (Try.prog.info? 199).map (fun i => (i.zero, i.size, i.bytes)) = some (some ((Value.nilFunc)), 1, 8) := by kernel_rfl
theorem tsz200 : (Try.prog.info? 200).map (·.size) = some 1 := by kernel_rfl
theorem tz200 : (Try.prog.info? 200).map (fun i => (i.zero, i.size)) = some (some ((Value.nilFunc)), 1) := by kernel_rfl
theorem tin200 : (Try.prog.info? 200).map (fun i => (i.zero, i.size, i.bytes)) = some (some ((Value.nilFunc)), 1, 8) := by kernel_rfl
theorem tsz201 : (Try.prog.info? 201).map (·.size) = some 1 := by kernel_rfl
theorem tz201 : (Try.prog.info? 201).map (fun i => (i.zero, i.size)) = some (some ((Value.nilFunc)), 1) := by kernel_rfl
theorem tin201 : (Try.prog.info? 201).map (fun i => (i.zero, i.size, i.bytes)) = some (some ((Value.nilFunc)), 1, 8) := by kernel_rfl
theorem tsz202 : (Try.prog.info? 202).map (·.size) = some 1 := by kernel_rfl
theorem tz202 : (Try.prog.info? 202).map (fun i => (i.zero, i.size)) = some (some ((Value.nilFunc)), 1) := by kernel_rfl
theorem tin202 : (Try.prog.info? 202).map (fun i => (i.zero, i.size, i.bytes)) = some (some ((Value.nilFunc)), 1, 8) := by kernel_rfl
theorem tsz204 : (Try.prog.info? 204).map (·.size) = some 1 := by kernel_rfl
theorem tz204 : (Try.prog.info? 204).map (fun i => (i.zero, i.size)) = some (some ((Value.nilFunc)), 1) := by kernel_rfl
theorem tin204 : (Try.prog.info? 204).map (fun i => (i.zero, i.size, i.bytes)) = some (some ((Value.nilFunc)), 1, 8) := by kernel_rfl
theorem tsz206 : (Try.prog.info? 206).map (·.size) = some 1 := by kernel_rfl
theorem tz206 : (Try.prog.info? 206).map (fun i => (i.zero, i.size)) = some (some ((Value.nilFunc)), 1) := by kernel_rfl
theorem tin206 : (Try.prog.info? 206).map (fun i => (i.zero, i.size, i.bytes)) = some (some ((Value.nilFunc)), 1, 8) := by kernel_rfl
theorem tsz207 : (Try.prog.info? 207).map (·.size) = some 1 := by kernel_rfl
theorem tz207 : (Try.prog.info? 207).map (fun i => (i.zero, i.size)) = some (some ((Value.nilFunc)), 1) := by kernel_rfl
theorem tin207 : (Try.prog.info? 207).map (fun i => (i.zero, i.size, i.bytes)) = some (some ((Value.nilFunc)), 1, 8) := by kernel_rfl
theorem tsz208 : (Try.prog.info? 208).map (·.size) = some 1 := by kernel_rfl
theorem tz208 : (Try.prog.info? 208).map (fun i => (i.zero, i.size)) = some (some ((Value.nilFunc)), 1) := by kernel_rfl
theorem tin208 : (Try.prog.info? 208).map (fun i => (i.zero, i.size, i.bytes)) = some (some ((Value.nilFunc)), 1, 8) := by kernel_rfl
theorem tsz209 : (Try.prog.info? 209).map (·.size) = some 1 := by kernel_rfl
theorem tz209 : (Try.prog.info? 209).map (fun i => (i.zero, i.size)) = some (some ((Value.nilFunc)), 1) := by kernel_rfl
theorem tin209 : (Try.prog.info? 209).map (fun i => (i.zero, i.size, i.bytes)) = some (some ((Value.nilFunc)), 1, 8) := by kernel_rfl
theorem tsz210 : (Try.prog.info? 210).map (·.size) = some 1 := by kernel_rfl
theorem tz210 : (Try.prog.info? 210).map (fun i => (i.zero, i.size)) = some (some ((Value.nilFunc)), 1) := by kernel_rfl
theorem tin210 : (Try.prog.info? 210).map (fun i => (i.zero, i.size, i.bytes)) = some (some ((Value.nilFunc)), 1, 8) := by kernel_rfl
theorem tsz211 : (Try.prog.info? 211).map (·.size) = some 1 := by kernel_rfl
theorem tz211 : (Try.prog.info? 211).map (fun i => (i.zero, i.size)) = some (some ((Value.slice none 0 0)), 1) := by kernel_rfl
theorem tin211 : (Try.prog.info? 211).map (fun i => (i.zero, i.size, i.bytes)) = some (some ((Value.slice none 0 0)), 1, 24) := by kernel_rfl
theorem tsz212 : (Try.prog.info? 212).map (·.size) = some 1 := by kernel_rfl
theorem tz212 : (Try.prog.info? 212).map (fun i => (i.zero, i.size)) = some (some ((Value.nilFunc)), 1) := by kernel_rfl
theorem tin212 : (Try.prog.info? 212).map (fun i => (i.zero, i.size, i.bytes)) = some (some ((Value.nilFunc)), 1, 8) := by kernel_rfl
theorem tsz213 : (Try.prog.info? 213).map (·.size) = some 1 := by kernel_rfl
theorem tz213 : (Try.prog.info? 213).map (fun i => (i.zero, i.size)) = some (some ((Value.nilFunc)), 1) := by kernel_rfl
theorem tin213 : (Try.prog.info? 213).map (fun i => (i.zero, i.size, i.bytes)) = some (some ((Value.nilFunc)), 1, 8) := by kernel_rfl
theorem tsz214 : (Try.prog.info? 214).map (·.size) = some 1 := by kernel_rfl
theorem tz214 : (Try.prog.info? 214).map (fun i => (i.zero, i.size)) = some (some ((Value.nilFunc)), 1) := by kernel_rfl
theorem tin214 : (Try.prog.info? 214).map (fun i => (i.zero, i.size, i.bytes)) = some (some ((Value.nilFunc)), 1, 8) := by kernel_rfl
theorem tsz215 : (Try.prog.info? 215).map (·.size) = some 1 := by kernel_rfl
theorem tz215 : (Try.prog.info? 215).map (fun i => (i.zero, i.size)) = some (some ((Value.nilFunc)), 1) := by kernel_rfl
theorem tin215 : (Try.prog.info? 215).map (fun i => (i.zero, i.size, i.bytes)) = some (some ((Value.nilFunc)), 1, 8) := by kernel_rfl
theorem tsz216 : (Try.prog.info? 216).map (·.size) = some 1 := by kernel_rfl
theorem tz216 : (Try.prog.info? 216).map (fun i => (i.zero, i.size)) = some (some ((Value.slice none 0 0)), 1) := by kernel_rfl
theorem tin216 : (Try.prog.info? 216).map (fun i => (i.zero, i.size, i.bytes)) = some (some ((Value.slice none 0 0)), 1, 24) := by kernel_rfl
theorem tsz217 : (Try.prog.info? 217).map (·.size) = some 2 := by kernel_rfl
theorem tz217 : (Try.prog.info? 217).map (fun i => (i.zero, i.size)) = some (some ((Value.agg #[.string ⟨#[]⟩, .slice none 0 0])), 2) := by kernel_rfl
theorem tin217 : (Try.prog.info? 217).map (fun i => (i.zero, i.size, i.bytes)) = some (some ((Value.agg #[.string ⟨#[]⟩, .slice none 0 0])), 2, 40) := by kernel_rfl
theorem tsz218 : (Try.prog.info? 218).map (·.size) = some 2 := by kernel_rfl
theorem tz218 : (Try.prog.info? 218).map (fun i => (i.zero, i.size)) = some (some ((Value.agg #[.string ⟨#[]⟩, .slice none 0 0])), 2) := by kernel_rfl
theorem tin218 : (Try.prog.info? 218).map (fun i => (i.zero, i.size, i.bytes)) = some (some ((Value.agg #[.string ⟨#[]⟩, .slice none 0 0])), 2, 40) := by kernel_rfl
theorem tsz219 : (Try.prog.info? 219).map (·.size) = some 1 := by kernel_rfl
theorem tz219 : (Try.prog.info? 219).map (fun i => (i.zero, i.size)) = some (some ((Value.pointer none)), 1) := by kernel_rfl
theorem tin219 : (Try.prog.info? 219).map (fun i => (i.zero, i.size, i.bytes)) = some (some ((Value.pointer none)), 1, 8) := by kernel_rfl
theorem tsz220 : (Try.prog.info? 220).map (·.size) = some 2 := by kernel_rfl
theorem tz220 : (Try.prog.info? 220).map (fun i => (i.zero, i.size)) = some (some ((Value.agg #[.string ⟨#[]⟩, .string ⟨#[]⟩])), 2) := by kernel_rfl
theorem tin220 : (Try.prog.info? 220).map (fun i => (i.zero, i.size, i.bytes)) = some (some ((Value.agg #[.string ⟨#[]⟩, .string ⟨#[]⟩])), 2, 32) := by kernel_rfl
theorem tsz221 : (Try.prog.info? 221).map (·.size) = some 2 := by kernel_rfl
theorem tz221 : (Try.prog.info? 221).map (fun i => (i.zero, i.size)) = some (some ((Value.agg #[.string ⟨#[]⟩, .string ⟨#[]⟩])), 2) := by kernel_rfl
theorem tin221 : (Try.prog.info? 221).map (fun i => (i.zero, i.size, i.bytes)) = some (some ((Value.agg #[.string ⟨#[]⟩, .string ⟨#[]⟩])), 2, 32) := by kernel_rfl
theorem tsz222 : (Try.prog.info? 222).map (·.size) = some 1 := by kernel_rfl
theorem tz222 : (Try.prog.info? 222).map (fun i => (i.zero, i.size)) = some (some ((Value.nilFunc)), 1) := by kernel_rfl
theorem tin222 : (Try.prog.info? 222).map (fun i => (i.zero, i.size, i.bytes)) = some (some ((Value.nilFunc)), 1, 8) := by kernel_rfl
theorem tsz223 : (Try.prog.info? 223).map (·.size) = some 1 := by kernel_rfl
theorem tz223 : (Try.prog.info? 223).map (fun i => (i.zero, i.size)) = some (some ((Value.nilFunc)), 1) := by kernel_rfl
theorem tin223 : (Try.prog.info? 223).map (fun i => (i.zero, i.size, i.bytes)) = some (some ((Value.nilFunc)), 1, 8) := by kernel_rfl
theorem tsz224 : (Try.prog.info? 224).map (·.size) = some 1 := by kernel_rfl
theorem tz224 : (Try.prog.info? 224).map (fun i => (i.zero, i.size)) = some (some ((Value.nilFunc)), 1) := by kernel_rfl
theorem tin224 : (Try.prog.info? 224).map (fun i => (i.zero, i.size, i.bytes)) = some (some ((Value.nilFunc)), 1, 8) := by kernel_rfl
theorem tsz225 : (Try.prog.info? 225).map (·.size) = some 1 := by kernel_rfl
theorem tz225 : (Try.prog.info? 225).map (fun i => (i.zero, i.size)) = some (some ((Value.nilFunc)), 1) := by kernel_rfl
theorem tin225 : (Try.prog.info? 225).map (fun i => (i.zero, i.size, i.bytes)) = some (some ((Value.nilFunc)), 1, 8) := by kernel_rfl
theorem tsz226 : (Try.prog.info? 226).map (·.size) = some 1 := by kernel_rfl
theorem tz226 : (Try.prog.info? 226).map (fun i => (i.zero, i.size)) = some (some ((Value.nilFunc)), 1) := by kernel_rfl
theorem tin226 : (Try.prog.info? 226).map (fun i => (i.zero, i.size, i.bytes)) = some (some ((Value.nilFunc)), 1, 8) := by kernel_rfl
theorem tsz227 : (Try.prog.info? 227).map (·.size) = some 1 := by kernel_rfl
theorem tz227 : (Try.prog.info? 227).map (fun i => (i.zero, i.size)) = some (some ((Value.nilFunc)), 1) := by kernel_rfl
theorem tin227 : (Try.prog.info? 227).map (fun i => (i.zero, i.size, i.bytes)) = some (some ((Value.nilFunc)), 1, 8) := by kernel_rfl
theorem tsz228 : (Try.prog.info? 228).map (·.size) = some 8 := by kernel_rfl
theorem tz228 : (Try.prog.info? 228).map (fun i => (i.zero, i.size)) = some (some ((Value.agg #[.pointer none, .slice none 0 0, .bool false, .string ⟨#[]⟩, .string ⟨#[]⟩, .string ⟨#[]⟩, .string ⟨#[]⟩, .string ⟨#[]⟩])), 8) := by kernel_rfl
theorem tin228 : (Try.prog.info? 228).map (fun i => (i.zero, i.size, i.bytes)) = some (some ((Value.agg #[.pointer none, .slice none 0 0, .bool false, .string ⟨#[]⟩, .string ⟨#[]⟩, .string ⟨#[]⟩, .string ⟨#[]⟩, .string ⟨#[]⟩])), 8, 120) := by kernel_rfl
theorem tsz229 : (Try.prog.info? 229).map (·.size) = some 8 := by kernel_rfl
theorem tz229 : (Try.prog.info? 229).map (fun i => (i.zero, i.size)) = some (some ((Value.agg #[.pointer none, .slice none 0 0, .bool false, .string ⟨#[]⟩, .string ⟨#[]⟩, .string ⟨#[]⟩, .string ⟨#[]⟩, .string ⟨#[]⟩])), 8) := by kernel_rfl
theorem tin229 : (Try.prog.info? 229).map (fun i => (i.zero, i.size, i.bytes)) = some (some ((Value.agg #[.pointer none, .slice none 0 0, .bool false, .string ⟨#[]⟩, .string ⟨#[]⟩, .string ⟨#[]⟩, .string ⟨#[]⟩, .string ⟨#[]⟩])), 8, 120) := by kernel_rfl
theorem tsz230 : (Try.prog.info? 230).map (·.size) = some 1 := by kernel_rfl
theorem tz230 : (Try.prog.info? 230).map (fun i => (i.zero, i.size)) = some (some ((Value.nilFunc)), 1) := by kernel_rfl
theorem tin230 : (Try.prog.info? 230).map (fun i => (i.zero, i.size, i.bytes)) = some (some ((Value.nilFunc)), 1, 8) := by kernel_rfl
theorem tsz231 : (Try.prog.info? 231).map (·.size) = some 1 := by kernel_rfl
theorem tz231 : (Try.prog.info? 231).map (fun i => (i.zero, i.size)) = some (some ((Value.nilFunc)), 1) := by kernel_rfl
theorem tin231 : (Try.prog.info? 231).map (fun i => (i.zero, i.size, i.bytes)) = some (some ((Value.nilFunc)), 1, 8) := by kernel_rfl
theorem tsz232 : (Try.prog.info? 232).map (·.size) = some 1 := by kernel_rfl
theorem tz232 : (Try.prog.info? 232).map (fun i => (i.zero, i.size)) = some (some ((Value.nilFunc)), 1) := by kernel_rfl
theorem tin232 : (Try.prog.info? 232).map (fun i => (i.zero, i.size, i.bytes)) = some (some ((Value.nilFunc)), 1, 8) := by kernel_rfl
theorem tsz233 : (Try.prog.info? 233).map (·.size) = some 1 := by kernel_rfl
theorem tz233 : (Try.prog.info? 233).map (fun i => (i.zero, i.size)) = some (some ((Value.slice none 0 0)), 1) := by kernel_rfl
theorem tin233 : (Try.prog.info? 233).map (fun i => (i.zero, i.size, i.bytes)) = some (some ((Value.slice none 0 0)), 1, 24) := by kernel_rfl
theorem tsz234 : (Try.prog.info? 234).map (·.size) = some 1 := by kernel_rfl
theorem tz234 : (Try.prog.info? 234).map (fun i => (i.zero, i.size)) = some (some ((Value.map none)), 1) := by kernel_rfl
theorem tin234 : (Try.prog.info? 234).map (fun i => (i.zero, i.size, i.bytes)) = some (some ((Value.map none)), 1, 8) := by kernel_rfl
theorem tsz235 : (Try.prog.info? 235).map (·.size) = some 1 := by kernel_rfl
theorem tz235 : (Try.prog.info? 235).map (fun i => (i.zero, i.size)) = some (some ((Value.slice none 0 0)), 1) := by kernel_rfl
theorem tin235 : (Try.prog.info? 235).map (fun i => (i.zero, i.size, i.bytes)) = some (some ((Value.slice none 0 0)), 1, 24) := by kernel_rfl
theorem tsz236 : (Try.prog.info? 236).map (·.size) = some 17 := by kernel_rfl
theorem tz236 : (Try.prog.info? 236).map (fun i => (i.zero, i.size)) = some (some ((Value.agg #[.string ⟨#[]⟩, .string ⟨#[]⟩, .slice none 0 0, .string ⟨#[]⟩, .string ⟨#[]⟩, .slice none 0 0, .slice none 0 0, .string ⟨#[]⟩, .string ⟨#[]⟩, .string ⟨#[]⟩, .string ⟨#[]⟩, .string ⟨#[]⟩, .bool false, .map none, .string ⟨#[]⟩, .slice none 0 0, .string ⟨#[]⟩])), 17) := by kernel_rfl
theorem tin236 : (Try.prog.info? 236).map (fun i => (i.zero, i.size, i.bytes)) = some (some ((Value.agg #[.string ⟨#[]⟩, .string ⟨#[]⟩, .slice none 0 0, .string ⟨#[]⟩, .string ⟨#[]⟩, .slice none 0 0, .slice none 0 0, .string ⟨#[]⟩, .string ⟨#[]⟩, .string ⟨#[]⟩, .string ⟨#[]⟩, .string ⟨#[]⟩, .bool false, .map none, .string ⟨#[]⟩, .slice none 0 0, .string ⟨#[]⟩])), 17, 288) := by kernel_rfl
theorem tsz237 : (Try.prog.info? 237).map (·.size) = some 17 := by kernel_rfl
theorem tz237 : (Try.prog.info? 237).map (fun i => (i.zero, i.size)) = some (some ((Value.agg #[.string ⟨#[]⟩, .string ⟨#[]⟩, .slice none 0 0, .string ⟨#[]⟩, .string ⟨#[]⟩, .slice none 0 0, .slice none 0 0, .string ⟨#[]⟩, .string ⟨#[]⟩, .string ⟨#[]⟩, .string ⟨#[]⟩, .string ⟨#[]⟩, .bool false, .map none, .string ⟨#[]⟩, .slice none 0 0, .string ⟨#[]⟩])), 17) := by kernel_rfl
theorem tin237 : (Try.prog.info? 237).map (fun i => (i.zero, i.size, i.bytes)) = some (some ((Value.agg #[.string ⟨#[]⟩, .string ⟨#[]⟩, .slice none 0 0, .string ⟨#[]⟩, .string ⟨#[]⟩, .slice none 0 0, .slice none 0 0, .string ⟨#[]⟩, .string ⟨#[]⟩, .string ⟨#[]⟩, .string ⟨#[]⟩, .string ⟨#[]⟩, .bool false, .map none, .string ⟨#[]⟩, .slice none 0 0, .string ⟨#[]⟩])), 17, 288) := by kernel_rfl
theorem tsz238 : (Try.prog.info? 238).map (·.size) = some 1 := by kernel_rfl
theorem tz238 : (Try.prog.info? 238).map (fun i => (i.zero, i.size)) = some (some ((Value.pointer none)), 1) := by kernel_rfl
theorem tin238 : (Try.prog.info? 238).map (fun i => (i.zero, i.size, i.bytes)) = some (some ((Value.pointer none)), 1, 8) := by kernel_rfl
theorem tsz239 : (Try.prog.info? 239).map (·.size) = some 1 := by kernel_rfl
theorem tz239 : (Try.prog.info? 239).map (fun i => (i.zero, i.size)) = some (some ((Value.nilFunc)), 1) := by kernel_rfl
theorem tin239 : (Try.prog.info? 239).map (fun i => (i.zero, i.size, i.bytes)) = some (some ((Value.nilFunc)), 1, 8) := by kernel_rfl
theorem tsz240 : (Try.prog.info? 240).map (·.size) = some 1 := by kernel_rfl
theorem tz240 : (Try.prog.info? 240).map (fun i => (i.zero, i.size)) = some (some ((Value.pointer none)), 1) := by kernel_rfl
theorem tin240 : (Try.prog.info? 240).map (fun i => (i.zero, i.size, i.bytes)) = some (some ((Value.pointer none)), 1, 8) := by kernel_rfl
theorem tsz241 : (Try.prog.info? 241).map (·.size) = some 1 := by kernel_rfl
theorem tz241 : (Try.prog.info? 241).map (fun i => (i.zero, i.size)) = some (some ((Value.nilFunc)), 1) := by kernel_rfl
theorem tin241 : (Try.prog.info? 241).map (fun i => (i.zero, i.size, i.bytes)) = some (some ((Value.nilFunc)), 1, 8) := by kernel_rfl
theorem tsz242 : (Try.prog.info? 242).map (·.size) = some 1 := by kernel_rfl
theorem tz242 : (Try.prog.info? 242).map (fun i => (i.zero, i.size)) = some (some ((Value.nilFunc)), 1) := by kernel_rfl
theorem tin242 : (Try.prog.info? 242).map (fun i => (i.zero, i.size, i.bytes)) = some (some ((Value.nilFunc)), 1, 8) := by kernel_rfl
theorem tsz243 : (Try.prog.info? 243).map (·.size) = some 1 := by kernel_rfl
theorem tz243 : (Try.prog.info? 243).map (fun i => (i.zero, i.size)) = some (some ((Value.map none)), 1) := by kernel_rfl
theorem tin243 : (Try.prog.info? 243).map (fun i => (i.zero, i.size, i.bytes)) = some (some ((Value.map none)), 1, 8) := by kernel_rfl
theorem tsz244 : (Try.prog.info? 244).map (·.size) = some 8 := by kernel_rfl
theorem tz244 : (Try.prog.info? 244).map (fun i => (i.zero, i.size)) = some (some ((Value.agg #[.slice none 0 0, .pointer none, .slice none 0 0, .map none, .slice none 0 0, .slice none 0 0, .pointer none, .slice none 0 0])), 8) := by kernel_rfl
theorem tin244 : (Try.prog.info? 244).map (fun i => (i.zero, i.size, i.bytes)) = some (some ((Value.agg #[.slice none 0 0, .pointer none, .slice none 0 0, .map none, .slice none 0 0, .slice none 0 0, .pointer none, .slice none 0 0])), 8, 144) := by kernel_rfl
theorem tsz245 : (Try.prog.info? 245).map (·.size) = some 8 := by kernel_rfl
theorem tz245 : (Try.prog.info? 245).map (fun i => (i.zero, i.size)) = some (some ((Value.agg #[.slice none 0 0, .pointer none, .slice none 0 0, .map none, .slice none 0 0, .slice none 0 0, .pointer none, .slice none 0 0])), 8) := by kernel_rfl
theorem tin245 : (Try.prog.info? 245).map (fun i => (i.zero, i.size, i.bytes)) = some (some ((Value.agg #[.slice none 0 0, .pointer none, .slice none 0 0, .map none, .slice none 0 0, .slice none 0 0, .pointer none, .slice none 0 0])), 8, 144) := by kernel_rfl
theorem tsz246 : (Try.prog.info? 246).map (·.size) = some 1 := by kernel_rfl
theorem tz246 : (Try.prog.info? 246).map (fun i => (i.zero, i.size)) = some (some ((Value.nilFunc)), 1) := by kernel_rfl
theorem tin246 : (Try.prog.info? 246).map (fun i => (i.zero, i.size, i.bytes)) = some (some ((Value.nilFunc)), 1, 8) := by kernel_rfl
theorem tsz247 : (Try.prog.info? 247).map (·.size) = some 1 := by kernel_rfl
theorem tz247 : (Try.prog.info? 247).map (fun i => (i.zero, i.size)) = some (some ((Value.map none)), 1) := by kernel_rfl
theorem tin247 : (Try.prog.info? 247).map (fun i => (i.zero, i.size, i.bytes)) = some (some ((Value.map none)), 1, 8) := by kernel_rfl
theorem tsz248 : (Try.prog.info? 248).map (·.size) = some 4 := by kernel_rfl
theorem tz248 : (Try.prog.info? 248).map (fun i => (i.zero, i.size)) = some (some ((Value.agg #[.string ⟨#[]⟩, .map none, .slice none 0 0, .map none])), 4) := by kernel_rfl
theorem tin248 : (Try.prog.info? 248).map (fun i => (i.zero, i.size, i.bytes)) = some (some ((Value.agg #[.string ⟨#[]⟩, .map none, .slice none 0 0, .map none])), 4, 56) := by kernel_rfl
theorem tsz249 : (Try.prog.info? 249).map (·.size) = some 4 := by kernel_rfl
theorem tz249 : (Try.prog.info? 249).map (fun i => (i.zero, i.size)) = some (some ((Value.agg #[.string ⟨#[]⟩, .map none, .slice none 0 0, .map none])), 4) := by kernel_rfl
theorem tin249 : (Try.prog.info? 249).map (fun i => (i.zero, i.size, i.bytes)) = some (some ((Value.agg #[.string ⟨#[]⟩, .map none, .slice none 0 0, .map none])), 4, 56) := by kernel_rfl
theorem tsz250 : (Try.prog.info? 250).map (·.size) = some 1 := by kernel_rfl
theorem tz250 : (Try.prog.info? 250).map (fun i => (i.zero, i.size)) = some (some ((Value.pointer none)), 1) := by kernel_rfl
theorem tin250 : (Try.prog.info? 250).map (fun i => (i.zero, i.size, i.bytes)) = some (some ((Value.pointer none)), 1, 8) := by kernel_rfl
theorem tsz252 : (Try.prog.info? 252).map (·.size) = some 1 := by kernel_rfl
theorem tz252 : (Try.prog.info? 252).map (fun i => (i.zero, i.size)) = some (some ((Value.nilFunc)), 1) := by kernel_rfl
theorem tin252 : (Try.prog.info? 252).map (fun i => (i.zero, i.size, i.bytes)) = some (some ((Value.nilFunc)), 1, 8) := by kernel_rfl
theorem tsz253 : (Try.prog.info? 253).map (·.size) = some 1 := by kernel_rfl
theorem tz253 : (Try.prog.info? 253).map (fun i => (i.zero, i.size)) = some (some ((Value.pointer none)), 1) := by kernel_rfl
theorem tin253 : (Try.prog.info? 253).map (fun i => (i.zero, i.size, i.bytes)) = some (some ((Value.pointer none)), 1, 8) := by kernel_rfl
theorem tsz255 : (Try.prog.info? 255).map (·.size) = some 1 := by kernel_rfl
theorem tz255 : (Try.prog.info? 255).map (fun i => (i.zero, i.size)) = some (some ((Value.nilFunc)), 1) := by kernel_rfl
theorem tin255 : (Try.prog.info? 255).map (fun i => (i.zero, i.size, i.bytes)) = some (some ((Value.nilFunc)), 1, 8) := by kernel_rfl
theorem tsz256 : (Try.prog.info? 256).map (·.size) = some 1 := by kernel_rfl
theorem tz256 : (Try.prog.info? 256).map (fun i => (i.zero, i.size)) = some (some ((Value.nilFunc)), 1) := by kernel_rfl
theorem tin256 : (Try.prog.info? 256).map (fun i => (i.zero, i.size, i.bytes)) = some (some ((Value.nilFunc)), 1, 8) := by kernel_rfl
theorem tsz257 : (Try.prog.info? 257).map (·.size) = some 1 := by kernel_rfl
theorem tz257 : (Try.prog.info? 257).map (fun i => (i.zero, i.size)) = some (some ((Value.nilFunc)), 1) := by kernel_rfl
theorem tin257 : (Try.prog.info? 257).map (fun i => (i.zero, i.size, i.bytes)) = some (some ((Value.nilFunc)), 1, 8) := by kernel_rfl
theorem tsz258 : (Try.prog.info? 258).map (·.size) = some 1 := by kernel_rfl
theorem tz258 : (Try.prog.info? 258).map (fun i => (i.zero, i.size)) = some (some ((Value.string ⟨#[]⟩)), 1) := by kernel_rfl
theorem tin258 : (Try.prog.info? 258).map (fun i => (i.zero, i.size, i.bytes)) = some (some ((Value.string ⟨#[]⟩)), 1, 16) := by kernel_rfl
theorem tsz259 : (Try.prog.info? 259).map (·.size) = some 1 := by kernel_rfl
theorem tz259 : (Try.prog.info? 259).map (fun i => (i.zero, i.size)) = some (some ((Value.map none)), 1) := by kernel_rfl
theorem tin259 : (Try.prog.info? 259).map (fun i => (i.zero, i.size, i.bytes)) = some (some ((Value.map none)), 1, 8) := by kernel_rfl
theorem tsz260 : (Try.prog.info? 260).map (·.size) = some 1 := by kernel_rfl
theorem tz260 : (Try.prog.info? 260).map (fun i => (i.zero, i.size)) = some (some ((Value.slice none 0 0)), 1) := by kernel_rfl
theorem tin260 : (Try.prog.info? 260).map (fun i => (i.zero, i.size, i.bytes)) = some (some ((Value.slice none 0 0)), 1, 24) := by kernel_rfl
theorem tsz261 : (Try.prog.info? 261).map (·.size) = some 8 := by kernel_rfl
theorem tz261 : (Try.prog.info? 261).map (fun i => (i.zero, i.size)) = some (some ((Value.agg #[.string ⟨#[]⟩, .string ⟨#[]⟩, .string ⟨#[]⟩, .string ⟨#[]⟩, .slice none 0 0, .bool false, .slice none 0 0, .string ⟨#[]⟩])), 8) := by kernel_rfl
theorem tin261 : (Try.prog.info? 261).map (fun i => (i.zero, i.size, i.bytes)) = some (some ((Value.agg #[.string ⟨#[]⟩, .string ⟨#[]⟩, .string ⟨#[]⟩, .string ⟨#[]⟩, .slice none 0 0, .bool false, .slice none 0 0, .string ⟨#[]⟩])), 8, 136) := by kernel_rfl
theorem tsz262 : (Try.prog.info? 262).map (·.size) = some 8 := by kernel_rfl
theorem tz262 : (Try.prog.info? 262).map (fun i => (i.zero, i.size)) = some (some ((Value.agg #[.string ⟨#[]⟩, .string ⟨#[]⟩, .string ⟨#[]⟩, .string ⟨#[]⟩, .slice none 0 0, .bool false, .slice none 0 0, .string ⟨#[]⟩])), 8) := by kernel_rfl
theorem tin262 : (Try.prog.info? 262).map (fun i => (i.zero, i.size, i.bytes)) = some (some ((Value.agg #[.string ⟨#[]⟩, .string ⟨#[]⟩, .string ⟨#[]⟩, .string ⟨#[]⟩, .slice none 0 0, .bool false, .slice none 0 0, .string ⟨#[]⟩])), 8, 136) := by kernel_rfl
theorem tsz263 : (Try.prog.info? 263).map (·.size) = some 1 := by kernel_rfl
theorem tz263 : (Try.prog.info? 263).map (fun i => (i.zero, i.size)) = some (some ((Value.nilFunc)), 1) := by kernel_rfl
theorem tin263 : (Try.prog.info? 263).map (fun i => (i.zero, i.size, i.bytes)) = some (some ((Value.nilFunc)), 1, 8) := by kernel_rfl
theorem tsz264 : (Try.prog.info? 264).map (·.size) = some 1 := by kernel_rfl
theorem tz264 : (Try.prog.info? 264).map (fun i => (i.zero, i.size)) = some (some ((Value.nilFunc)), 1) := by kernel_rfl
theorem tin264 : (Try.prog.info? 264).map (fun i => (i.zero, i.size, i.bytes)) = some (some ((Value.nilFunc)), 1, 8) := by kernel_rfl
theorem tsz265 : (Try.prog.info? 265).map (·.size) = some 1 := by kernel_rfl
theorem tz265 : (Try.prog.info? 265).map (fun i => (i.zero, i.size)) = some (some ((Value.nilFunc)), 1) := by kernel_rfl
theorem tin265 : (Try.prog.info? 265).map (fun i => (i.zero, i.size, i.bytes)) = some (some ((Value.nilFunc)), 1, 8) := by kernel_rfl
theorem tsz266 : (Try.prog.info? 266).map (·.size) = some 1 := by kernel_rfl
theorem tz266 : (Try.prog.info? 266).map (fun i => (i.zero, i.size)) = some (some ((Value.nilFunc)), 1) := by kernel_rfl
theorem tin266 : (Try.prog.info? 266).map (fun i => (i.zero, i.size, i.bytes)) = some (some ((Value.nilFunc)), 1, 8) := by kernel_rfl
theorem tsz267 : (Try.prog.info? 267).map (·.size) = some 1 := by kernel_rfl
theorem tz267 : (Try.prog.info? 267).map (fun i => (i.zero, i.size)) = some (some ((Value.nilFunc)), 1) := by kernel_rfl
theorem tin267 : (Try.prog.info? 267).map (fun i => (i.zero, i.size, i.bytes)) = some (some ((Value.nilFunc)), 1, 8) := by kernel_rfl
theorem tsz268 : (Try.prog.info? 268).map (·.size) = some 1 := by kernel_rfl
theorem tz268 : (Try.prog.info? 268).map (fun i => (i.zero, i.size)) = some (some ((Value.nilFunc)), 1) := by kernel_rfl
theorem tin268 : (Try.prog.info? 268).map (fun i => (i.zero, i.size, i.bytes)) = some (some ((Value.nilFunc)), 1, 8) := by kernel_rfl
theorem tsz269 : (Try.prog.info? 269).map (·.size) = some 3 := by kernel_rfl
theorem tz269 : (Try.prog.info? 269).map (fun i => (i.zero, i.size)) = some (some ((Value.agg #[.string ⟨#[]⟩, .string ⟨#[]⟩, .string ⟨#[]⟩])), 3) := by kernel_rfl
theorem tin269 : (Try.prog.info? 269).map (fun i => (i.zero, i.size, i.bytes)) = some (some ((Value.agg #[.string ⟨#[]⟩, .string ⟨#[]⟩, .string ⟨#[]⟩])), 3, 48) := by kernel_rfl
theorem tsz270 : (Try.prog.info? 270).map (·.size) = some 3 := by kernel_rfl
theorem tz270 : (Try.prog.info? 270).map (fun i => (i.zero, i.size)) = some (some ((Value.agg #[.string ⟨#[]⟩, .string ⟨#[]⟩, .string ⟨#[]⟩])), 3) := by kernel_rfl
theorem tin270 : (Try.prog.info? 270).map (fun i => (i.zero, i.size, i.bytes)) = some (some ((Value.agg #[.string ⟨#[]⟩, .string ⟨#[]⟩, .string ⟨#[]⟩])), 3, 48) := by kernel_rfl
theorem tsz271 : (Try.prog.info? 271).map (·.size) = some 1 := by kernel_rfl
theorem tz271 : (Try.prog.info? 271).map (fun i => (i.zero, i.size)) = some (some ((Value.map none)), 1) := by kernel_rfl
theorem tin271 : (Try.prog.info? 271).map (fun i => (i.zero, i.size, i.bytes)) = some (some ((Value.map none)), 1, 8) := by kernel_rfl
theorem tsz272 : (Try.prog.info? 272).map (·.size) = some 0 := by kernel_rfl
theorem tz272 : (Try.prog.info? 272).map (fun i => (i.zero, i.size)) = some (some ((Value.agg #[])), 0) := by kernel_rfl
theorem tin272 : (Try.prog.info? 272).map (fun i => (i.zero, i.size, i.bytes)) = some (some ((Value.agg #[])), 0, 0) := by kernel_rfl
theorem tsz274 : (Try.prog.info? 274).map (·.size) = some 1 := by kernel_rfl
theorem tz274 : (Try.prog.info? 274).map (fun i => (i.zero, i.size)) = some (some ((Value.string ⟨#[]⟩)), 1) := by kernel_rfl
theorem tin274 : (Try.prog.info? 274).map (fun i => (i.zero, i.size, i.bytes)) = some (some ((Value.string ⟨#[]⟩)), 1, 16) := by kernel_rfl
theorem tsz275 : (Try.prog.info? 275).map (·.size) = some 1 := by kernel_rfl
theorem tz275 : (Try.prog.info? 275).map (fun i => (i.zero, i.size)) = some (some ((Value.agg #[.pointer none])), 1) := by kernel_rfl
theorem tin275 : (Try.prog.info? 275).map (fun i => (i.zero, i.size, i.bytes)) = some (some ((Value.agg #[.pointer none])), 1, 8) := by kernel_rfl
theorem tsz276 : (Try.prog.info? 276).map (·.size) = some 1 := by kernel_rfl
theorem tz276 : (Try.prog.info? 276).map (fun i => (i.zero, i.size)) = some (some ((Value.agg #[.pointer none])), 1) := by kernel_rfl
theorem tin276 : (Try.prog.info? 276).map (fun i => (i.zero, i.size, i.bytes)) = some (some ((Value.agg #[.pointer none])), 1, 8) := by kernel_rfl
theorem tsz277 : (Try.prog.info? 277).map (·.size) = some 4 := by kernel_rfl
theorem tz277 : (Try.prog.info? 277).map (fun i => (i.zero, i.size)) = some (some ((Value.agg #[.int .i64 0, .int .i64 0, .int .i64 0, .string ⟨#[]⟩])), 4) := by kernel_rfl
theorem tin277 : (Try.prog.info? 277).map (fun i => (i.zero, i.size, i.bytes)) = some (some ((Value.agg #[.int .i64 0, .int .i64 0, .int .i64 0, .string ⟨#[]⟩])), 4, 40) := by kernel_rfl
theorem tsz278 : (Try.prog.info? 278).map (·.size) = some 4 := by kernel_rfl
theorem tz278 : (Try.prog.info? 278).map (fun i => (i.zero, i.size)) = some (some ((Value.agg #[.int .i64 0, .int .i64 0, .int .i64 0, .string ⟨#[]⟩])), 4) := by kernel_rfl
theorem tin278 : (Try.prog.info? 278).map (fun i => (i.zero, i.size, i.bytes)) = some (some ((Value.agg #[.int .i64 0, .int .i64 0, .int .i64 0, .string ⟨#[]⟩])), 4, 40) := by kernel_rfl
theorem tsz279 : (Try.prog.info? 279).map (·.size) = some 1 := by kernel_rfl
theorem tz279 : (Try.prog.info? 279).map (fun i => (i.zero, i.size)) = some (some ((Value.pointer none)), 1) := by kernel_rfl
theorem tin279 : (Try.prog.info? 279).map (fun i => (i.zero, i.size, i.bytes)) = some (some ((Value.pointer none)), 1, 8) := by kernel_rfl
theorem tsz280 : (Try.prog.info? 280).map (·.size) = some 1 := by kernel_rfl
theorem tz280 : (Try.prog.info? 280).map (fun i => (i.zero, i.size)) = some (some ((Value.agg #[.string ⟨#[]⟩])), 1) := by kernel_rfl
theorem tin280 : (Try.prog.info? 280).map (fun i => (i.zero, i.size, i.bytes)) = some (some ((Value.agg #[.string ⟨#[]⟩])), 1, 16) := by kernel_rfl
theorem tsz281 : (Try.prog.info? 281).map (·.size) = some 1 := by kernel_rfl
theorem tz281 : (Try.prog.info? 281).map (fun i => (i.zero, i.size)) = some (some ((Value.agg #[.string ⟨#[]⟩])), 1) := by kernel_rfl
theorem tin281 : (Try.prog.info? 281).map (fun i => (i.zero, i.size, i.bytes)) = some (some ((Value.agg #[.string ⟨#[]⟩])), 1, 16) := by kernel_rfl
theorem tsz282 : (Try.prog.info? 282).map (·.size) = some 1 := by kernel_rfl
theorem tz282 : (Try.prog.info? 282).map (fun i => (i.zero, i.size)) = some (some ((Value.nilFunc)), 1) := by kernel_rfl
theorem tin282 : (Try.prog.info? 282).map (fun i => (i.zero, i.size, i.bytes)) = some (some ((Value.nilFunc)), 1, 8) := by kernel_rfl
theorem tsz283 : (Try.prog.info? 283).map (·.size) = some 1 := by kernel_rfl
theorem tz283 : (Try.prog.info? 283).map (fun i => (i.zero, i.size)) = some (some ((Value.nilFunc)), 1) := by kernel_rfl
theorem tin283 : (Try.prog.info? 283).map (fun i => (i.zero, i.size, i.bytes)) = some (some ((Value.nilFunc)), 1, 8) := by kernel_rfl
theorem tsz284 : (Try.prog.info? 284).map (·.size) = some 1 := by kernel_rfl
theorem tz284 : (Try.prog.info? 284).map (fun i => (i.zero, i.size)) = some (some ((Value.nilFunc)), 1) := by kernel_rfl
theorem tin284 : (Try.prog.info? 284).map (fun i => (i.zero, i.size, i.bytes)) = some (some ((Value.nilFunc)), 1, 8) := by kernel_rfl
theorem tsz285 : (Try.prog.info? 285).map (·.size) = some 1 := by kernel_rfl
theorem tz285 : (Try.prog.info? 285).map (fun i => (i.zero, i.size)) = some (some ((Value.nilFunc)), 1) := by kernel_rfl
theorem tin285 : (Try.prog.info? 285).map (fun i => (i.zero, i.size, i.bytes)) = some (some ((Value.nilFunc)), 1, 8) := by kernel_rfl
theorem tsz286 : (Try.prog.info? 286).map (·.size) = some 4 := by kernel_rfl
theorem tz286 : (Try.prog.info? 286).map (fun i => (i.zero, i.size)) = some (some ((Value.agg #[.pointer none, .pointer none, .pointer none, .string ⟨#[]⟩])), 4) := by kernel_rfl
theorem tin286 : (Try.prog.info? 286).map (fun i => (i.zero, i.size, i.bytes)) = some (some ((Value.agg #[.pointer none, .pointer none, .pointer none, .string ⟨#[]⟩])), 4, 40) := by kernel_rfl
theorem tsz287 : (Try.prog.info? 287).map (·.size) = some 4 := by kernel_rfl
theorem tz287 : (Try.prog.info? 287).map (fun i => (i.zero, i.size)) = some (some ((Value.agg #[.pointer none, .pointer none, .pointer none, .string ⟨#[]⟩])), 4) := by kernel_rfl
theorem tin287 : (Try.prog.info? 287).map (fun i => (i.zero, i.size, i.bytes)) = some (some ((Value.agg #[.pointer none, .pointer none, .pointer none, .string ⟨#[]⟩])), 4, 40) := by kernel_rfl
theorem tsz291 : (Try.prog.info? 291).map (·.size) = some 1 := by kernel_rfl
theorem tz291 : (Try.prog.info? 291).map (fun i => (i.zero, i.size)) = some (some ((Value.nilFunc)), 1) := by kernel_rfl
theorem tin291 : (Try.prog.info? 291).map (fun i => (i.zero, i.size, i.bytes)) = some (some ((Value.nilFunc)), 1, 8) := by kernel_rfl
theorem tsz292 : (Try.prog.info? 292).map (·.size) = some 1 := by kernel_rfl
theorem tz292 : (Try.prog.info? 292).map (fun i => (i.zero, i.size)) = some (some ((Value.int .u32 0)), 1) := by kernel_rfl
theorem tin292 : (Try.prog.info? 292).map (fun i => (i.zero, i.size, i.bytes)) = some (some ((Value.int .u32 0)), 1, 4) := by kernel_rfl
theorem tsz293 : (Try.prog.info? 293).map (·.size) = some 1 := by kernel_rfl
theorem tz293 : (Try.prog.info? 293).map (fun i => (i.zero, i.size)) = some (some ((Value.int .u8 0)), 1) := by kernel_rfl
theorem tin293 : (Try.prog.info? 293).map (fun i => (i.zero, i.size, i.bytes)) = some (some ((Value.int .u8 0)), 1, 1) := by kernel_rfl
theorem tsz294 : (Try.prog.info? 294).map (·.size) = some 1 := by kernel_rfl
theorem tz294 : (Try.prog.info? 294).map (fun i => (i.zero, i.size)) = some (some ((Value.int .u8 0)), 1) := by kernel_rfl
theorem tin294 : (Try.prog.info? 294).map (fun i => (i.zero, i.size, i.bytes)) = some (some ((Value.int .u8 0)), 1, 1) := by kernel_rfl
theorem tsz295 : (Try.prog.info? 295).map (·.size) = some 1 := by kernel_rfl
theorem tz295 : (Try.prog.info? 295).map (fun i => (i.zero, i.size)) = some (some ((Value.nilFunc)), 1) := by kernel_rfl
theorem tin295 : (Try.prog.info? 295).map (fun i => (i.zero, i.size, i.bytes)) = some (some ((Value.nilFunc)), 1, 8) := by kernel_rfl
theorem tsz296 : (Try.prog.info? 296).map (·.size) = some 1 := by kernel_rfl
theorem tz296 : (Try.prog.info? 296).map (fun i => (i.zero, i.size)) = some (some ((Value.pointer none)), 1) := by kernel_rfl
theorem tin296 : (Try.prog.info? 296).map (fun i => (i.zero, i.size, i.bytes)) = some (some ((Value.pointer none)), 1, 8) := by kernel_rfl
theorem tsz297 : (Try.prog.info? 297).map (·.size) = some 1 := by kernel_rfl
theorem tz297 : (Try.prog.info? 297).map (fun i => (i.zero, i.size)) = some (some ((Value.int .i32 0)), 1) := by kernel_rfl
theorem tin297 : (Try.prog.info? 297).map (fun i => (i.zero, i.size, i.bytes)) = some (some ((Value.int .i32 0)), 1, 4) := by kernel_rfl
theorem tsz298 : (Try.prog.info? 298).map (·.size) = some 1 := by kernel_rfl
theorem tz298 : (Try.prog.info? 298).map (fun i => (i.zero, i.size)) = some (some ((Value.int .i32 0)), 1) := by kernel_rfl
theorem tin298 : (Try.prog.info? 298).map (fun i => (i.zero, i.size, i.bytes)) = some (some ((Value.int .i32 0)), 1, 4) := by kernel_rfl
theorem tsz299 : (Try.prog.info? 299).map (·.size) = some 11 := by kernel_rfl
theorem tz299 : (Try.prog.info? 299).map (fun i => (i.zero, i.size)) = some (some ((Value.agg #[.int .u64 0, .int .u64 0, .int .u32 0, .int .u8 0, .int .u8 0, .int .u8 0, .int .u8 0, .nilFunc, .pointer none, .int .i32 0, .int .i32 0])), 11) := by kernel_rfl
theorem tin299 : (Try.prog.info? 299).map (fun i => (i.zero, i.size, i.bytes)) = some (some ((Value.agg #[.int .u64 0, .int .u64 0, .int .u32 0, .int .u8 0, .int .u8 0, .int .u8 0, .int .u8 0, .nilFunc, .pointer none, .int .i32 0, .int .i32 0])), 11, 48) := by kernel_rfl
theorem tsz300 : (Try.prog.info? 300).map (·.size) = some 11 := by kernel_rfl
theorem tz300 : (Try.prog.info? 300).map (fun i => (i.zero, i.size)) = some (some ((Value.agg #[.int .u64 0, .int .u64 0, .int .u32 0, .int .u8 0, .int .u8 0, .int .u8 0, .int .u8 0, .nilFunc, .pointer none, .int .i32 0, .int .i32 0])), 11) := by kernel_rfl
theorem tin300 : (Try.prog.info? 300).map (fun i => (i.zero, i.size, i.bytes)) = some (some ((Value.agg #[.int .u64 0, .int .u64 0, .int .u32 0, .int .u8 0, .int .u8 0, .int .u8 0, .int .u8 0, .nilFunc, .pointer none, .int .i32 0, .int .i32 0])), 11, 48) := by kernel_rfl
end Go.Proofs.Ytkjcedlgljeoiaa
