/- A part of the proof of the statement on the law FnStates, which the last text proves: part P7. -/
import Derived.Test.YtlceacefhnllbaaGreatDoorP5
set_option linter.all false
section
namespace Pl
theorem chk2_2 : chk2 ((codes.drop (13 * 2)).take 13) codes = true := by decide +kernel
end Pl
end
section
namespace Pl
theorem chk2_3 : chk2 ((codes.drop (13 * 3)).take 13) codes = true := by decide +kernel
end Pl
end
